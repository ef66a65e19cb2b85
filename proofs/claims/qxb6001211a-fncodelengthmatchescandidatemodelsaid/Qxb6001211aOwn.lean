import Derived.Test.Qxb6001211aCode
namespace Go.Proofs.Qxb6001211a
open Go.RowKit

theorem info5 : (Try.prog.info? 5).map (fun i => (i.zero, i.size, i.bytes)) = some (some (.int .u8 0), 1, 1) := by kernel_rfl

/-- The bytes of the one, then those of the other. -/
def both (n : Nat) (f g : Nat → Int) (i : Nat) : Int := if i < n then f i else g (i - n)

theorem both_left {n i : Nat} (f g : Nat → Int) (h : i < n) : f i = both n f g i := by unfold both; rw [if_pos h]
theorem both_right (n j : Nat) (f g : Nat → Int) : g j = both n f g (n + j) := by
  unfold both
  rw [if_neg (by omega), show n + j - n = j by omega]

/-- The row of ext after k bytes. -/
def ExtInv (n m k : Nat) (f g : Nat → Int) (b : Nat) (w : World) : Prop := w.rowIs b 5 (n + m) (fun j => if j < k then .int .u8 (both n f g j) else .int .u8 0)

theorem ExtInv.step {n m k b : Nat} {f g : Nat → Int} {w : World} (h : ExtInv n m k f g b w) {x : Int} (hx : x = both n f g k) : ExtInv n m (k + 1) f g b (w.setCell ⟨b, k, none⟩ (.int .u8 x)) := by
  subst hx
  refine (World.rowIs.set h k (.int .u8 (both n f g k))).congr fun i _ => ?_
  by_cases e : i = k
  · subst e; simp
  · by_cases l : i < k
    · simp [e, l, Nat.lt_succ_of_lt l]
    · have : ¬ i < k + 1 := by omega
      simp [e, l, this]

theorem ExtInv.done {n m b : Nat} {f g : Nat → Int} {w : World} (h : ExtInv n m (n + m) f g b w) : ∀ i, i < n + m → w.cell? ⟨b, 0 + i, none⟩ = some (.int .u8 (both n f g i)) := by
  intro i hi
  have := World.rowIs.cell h hi
  rw [if_pos hi] at this
  simpa using this

/-- It hands back true; of what was there nothing has turned. -/
def Yes (w : World) (e : Ending) (w' : World) : Prop := e = .returned (.bool true) ∧ Below w.heap.size w w'

set_option maxHeartbeats 1000000 in
theorem walk4 (a0 : Option Addr) (n c0 : Nat) (f : Nat → Int) (a1 : Option Addr) (m c1 : Nat) (g : Nat → Int) (w : World) (h0 : Has w a0 n f) (h1 : Has w a1 m g) :
    Calls Try.prog 4 #[.slice a0 n c0, .slice a1 m c1] w (Yes w) := by
  by_cases hs : n ≤ 1048576 ∧ m ≤ 1048576 ∧ n + m ≤ 1048576 ∧ 1 ≤ n
  · obtain ⟨s1, s2, s3, s4⟩ := hs
    have hmk := run_make_row' (P := Try.prog) 22 5 (.int .u8 0) 1 Try.underlying22 info5 rfl .i64 .i64 (n + m) (by omega) (by omega)
    rw [Int.natCast_add] at hmk
    have hi0 : ExtInv n m 0 f g w.heap.size (w.alloc (.cells (madeCells #[.int .u8 0] (n + m)) 5)) := (World.rowIs_made w (.int .u8 0) (n + m) 5).congr (fun i _ => by simp)
    have HT : Hid ((codeLen (both n f g) n = 0 ∧ n < 4 ∧ (codeLen (both n f g) (n + m) = 0 ∨ codeLen (both n f g) (n + m) < -n ∨ (n : Int) < codeLen (both n f g) (n + m))) ∨ (codeLen (both n f g) n ≠ 0 ∧ codeLen (both n f g) (n + m) = codeLen (both n f g) n ∧ -4 ≤ codeLen (both n f g) n ∧ codeLen (both n f g) n ≤ 4 ∧ codeLen (both n f g) n ≠ 3 ∧ (codeLen (both n f g) n).natAbs ≤ n)) := codeLen_two (both n f g) n (n + m) (by omega) s4
    rcases h0 with h0 | ⟨b, o, rfl, hc⟩
    · omega
    · have h1' : m < 1 ∨ (1 ≤ m ∧ ∃ b o, a1 = some ⟨b, o, none⟩ ∧ ∀ i, i < m → w.cell? ⟨b, o + i, none⟩ = some (.int .u8 (g i))) := by
        by_cases hm : m < 1
        · exact .inl hm
        · rcases h1 with h1 | h1
          · exact absurd h1 hm
          · exact .inr ⟨by omega, h1⟩
      clear h1
      rcases h1' with h1 | ⟨h1, b', o', rfl, hc'⟩
      all_goals
        go_enter Try.func4, Try.ntmps4
        go_wp2_with fail
        refine (bytes8 _ _ _ _ _ _ _).mono ?_
        rintro e w' ⟨he, hw⟩
        rw [hw]
        clear hw
        rcases he with rfl | rfl
        · go_wp2_with fail
          go_loopw [7] (fun i wr => ∃ k : Nat, k ≤ n ∧ i = .int .i64 k ∧ ExtInv n m k f g w.heap.size wr ∧ Below w.heap.size w wr) (fun i _ => n - (intOf i).toNat)
          case atStart => exact ⟨0, Nat.zero_le _, rfl, hi0, (Below.refl _ _).alloc (Nat.le_refl _) _⟩
          case round =>
            obtain ⟨k, hk, rfl, hi, hb⟩ := hrel
            clear hi0
            by_cases hlt : k < n
            · have hck := cell_later hb (hc k hlt)
              have hcd := World.rowIs.cell hi (i := k) (by omega)
              have hfd := World.rowIs.frozen hi k
              have hst := hi.step (x := f k) (both_left f g hlt)
              have hbn := hb.setCell (p := ⟨w.heap.size, k, none⟩) (Nat.le_refl _) (.int .u8 (f k))
              rw [if_neg (by omega)] at hcd
              go_wp2
              go_roundw
              case rel => exact ⟨k + 1, by omega, by go_num, hst, hbn⟩
              case measure => simp [intOf]; omega
            · have e : k = n := by omega
              rw [e] at hi
              clear e
              go_wp2_with fail
              go_loopw [8] (fun i wr => ∃ j : Nat, j ≤ m ∧ i = .int .i64 j ∧ ExtInv n m (n + j) f g w.heap.size wr ∧ Below w.heap.size w wr) (fun i _ => m - (intOf i).toNat)
              case atStart => exact ⟨0, Nat.zero_le _, rfl, hi, hb⟩
              case round =>
                clear hi hb
                obtain ⟨j, hj, rfl, hi, hb⟩ := hrel
                by_cases hjt : j < m
                · first
                    | (exfalso; omega)
                    | have hck := cell_later hb (hc' j hjt)
                      have hcd := World.rowIs.cell hi (i := n + j) (by omega)
                      have hfd := World.rowIs.frozen hi (n + j)
                      have hst := hi.step (x := g j) (both_right n j f g)
                      have hbn := hb.setCell (p := ⟨w.heap.size, n + j, none⟩) (Nat.le_refl _) (.int .u8 (g j))
                      rw [if_neg (by omega)] at hcd
                      go_wp2
                      go_roundw
                      case rel => exact ⟨j + 1, by omega, by go_num, hst, hbn⟩
                      case measure => simp [intOf]; omega
                · have e : j = m := by omega
                  rw [e] at hi
                  clear e
                  have hcell := hi.done
                  clear hi
                  have k1 := code6 w.heap.size 0 n (n + m) (both n f g) wr (fun i hi => hcell i (by omega)) s4 s1
                  have k2 := code6 w.heap.size 0 (n + m) (n + m) (both n f g) wr hcell (by omega) s3
                  have bd := codeLen_bd (both n f g) (n + m)
                  have T := HT.out
                  clear HT
                  by_cases hr : codeLen (both n f g) n = 0
                  · obtain ⟨g1, g2⟩ : n < 4 ∧ (codeLen (both n f g) (n + m) = 0 ∨ codeLen (both n f g) (n + m) < -n ∨ (n : Int) < codeLen (both n f g) (n + m)) := by
                      rcases T with T | T
                      · exact T.2
                      · exact absurd hr T.1
                    rw [hr] at k1
                    clear T hr
                    generalize codeLen (both n f g) (n + m) = y at *
                    by_cases hy : y = 0
                    · rw [hy] at k2
                      clear g2 bd hy
                      go_wp2_with fail
                      refine k1.mono ?_
                      rintro e w' ⟨rfl, hw⟩
                      rw [hw]
                      clear hw
                      go_wp2_with fail
                      refine k2.mono ?_
                      rintro e w' ⟨rfl, hw⟩
                      rw [hw]
                      clear hw
                      clear k1 k2
                      go_wp2
                      go_ret
                      exact ⟨rfl, hb⟩
                    · have hy' : (y == 0) = false := by simpa using hy
                      have k3 := abs9 y y.natAbs wr (by omega) (by omega)
                      have hn' : (n : Int) < (y.natAbs : Int) := by omega
                      clear g2 hy
                      generalize y.natAbs = ya at *
                      go_wp2_with fail
                      refine k1.mono ?_
                      rintro e w' ⟨rfl, hw⟩
                      rw [hw]
                      clear hw
                      go_wp2_with fail
                      refine k2.mono ?_
                      rintro e w' ⟨rfl, hw⟩
                      rw [hw]
                      clear hw
                      go_wp2_with fail
                      refine k3.mono ?_
                      rintro e w' ⟨rfl, hw⟩
                      rw [hw]
                      clear hw
                      clear k1 k2 k3
                      go_wp2
                      go_ret
                      exact ⟨rfl, hb⟩
                  · obtain ⟨q1, q2, q3, q4, q5⟩ : codeLen (both n f g) (n + m) = codeLen (both n f g) n ∧ -4 ≤ codeLen (both n f g) n ∧ codeLen (both n f g) n ≤ 4 ∧ codeLen (both n f g) n ≠ 3 ∧ (codeLen (both n f g) n).natAbs ≤ n := by
                      rcases T with T | T
                      · exact absurd T.1 hr
                      · exact T.2
                    have hself := codeLen_self (both n f g) n hr
                    rw [q1] at k2
                    clear T q1 bd
                    have k3 := abs9 (codeLen (both n f g) n) (codeLen (both n f g) n).natAbs wr (by omega) (by omega)
                    have hpos : 1 ≤ (codeLen (both n f g) n).natAbs := by omega
                    have k4 := code6 w.heap.size 0 (codeLen (both n f g) n).natAbs (n + m) (both n f g) wr (fun i hi => hcell i (by omega)) hpos (by omega)
                    rw [hself] at k4
                    clear hself
                    generalize codeLen (both n f g) n = y at *
                    have y0 : (y == 0) = false := by simpa using hr
                    have y3 : (y == 3) = false := by simpa using q4
                    have z1 : (y.natAbs : Int) ≤ (n : Int) := by omega
                    clear hr q4
                    generalize y.natAbs = ya at *
                    go_wp2_with fail
                    refine k1.mono ?_
                    rintro e w' ⟨rfl, hw⟩
                    rw [hw]
                    clear hw
                    go_wp2_with fail
                    refine k2.mono ?_
                    rintro e w' ⟨rfl, hw⟩
                    rw [hw]
                    clear hw
                    go_wp2_with fail
                    refine k3.mono ?_
                    rintro e w' ⟨rfl, hw⟩
                    rw [hw]
                    clear hw
                    go_wp2_with fail
                    refine k4.mono ?_
                    rintro e w' ⟨rfl, hw⟩
                    rw [hw]
                    clear hw
                    clear k1 k2 k3 k4
                    go_wp2
                    go_ret
                    exact ⟨rfl, hb⟩
        · go_wp2
          go_ret
          exact ⟨rfl, Below.refl _ _⟩
  · rcases (show 1048576 < n ∨ (n ≤ 1048576 ∧ 1048576 < m) ∨ (n ≤ 1048576 ∧ m ≤ 1048576 ∧ 1048576 < n + m) ∨ (n ≤ 1048576 ∧ m ≤ 1048576 ∧ n + m ≤ 1048576 ∧ n < 1) by omega) with t | ⟨t1, t⟩ | ⟨t1, t2, t⟩ | ⟨t1, t2, t3, t⟩
    all_goals
      clear hs h0 h1
      go_enter Try.func4, Try.ntmps4
      go_wp2_with fail
      refine (bytes8 _ _ _ _ _ _ _).mono ?_
      rintro e w' ⟨he, hw⟩
      rw [hw]
      clear hw
      rcases he with rfl | rfl
      all_goals
        go_wp2
        go_ret
        exact ⟨rfl, Below.refl _ _⟩
end Go.Proofs.Qxb6001211a
