import Derived.Test.Qxb6001386aField
namespace Go.Proofs.Qxb6001386a
open Go.RowKit Go.Maps Go.WideMaps Go.Sort

theorem own_later {w wx : World} {b n : Nat} {D : DataW Unit} (hown : w.ownsMap Try.prog 9 (plainElem Try.prog 3) b n D) (hb : Below w.heap.size w wx) : wx.ownsMap Try.prog 9 (plainElem Try.prog 3) b n D := by
  have hlt := hown.lt
  obtain ⟨es, clock, hb', F⟩ := hown
  exact ⟨es, clock, (hb.block b hlt).trans hb', F⟩

/-- The cells of the row that the law makes. -/
abbrev rowCells (a : Option Addr) (n c b : Nat) : Array Value := #[.string ⟨#[105, 110, 46, 99, 115, 118]⟩, .int .i64 2, .slice a n c, .map (some b), .string ⟨#[]⟩]

set_option maxHeartbeats 4000000 in
set_option maxRecDepth 100000 in
theorem walk5 (a0 : Option Addr) (nh c0 : Nat) (d0 : Nat → Addr) (Hd : Nat → ByteArray) (a1 : Option Addr) (nr c1 : Nat) (d1 : Nat → Addr) (R : Nat → ByteArray) (a2 : Option Addr) (no c2 : Nat) (d2 : Nat → Addr) (O : Nat → ByteArray) (w : World)
    (h0 : Has w a0 nh d0 Hd) (h1 : Has w a1 nr d1 R) (h2 : Has w a2 no d2 O) (z0 : a0 = none → nh = 0) (z1 : a1 = none → nr = 0) (z2 : a2 = none → no = 0)
    (m0 : ∀ i, i < nh → (Hd i).size ≤ maxLen) (_m1 : ∀ i, i < nr → (R i).size ≤ maxLen) (m2 : ∀ i, i < no → (O i).size ≤ maxLen) :
    Calls Try.prog 5 #[.slice a0 nh c0, .slice a1 nr c1, .slice a2 no c2] w (Ret (.bool true) w) := by
  have KB := bytes14 a0 nh c0 d0 Hd a1 nr c1 d1 R a2 no c2 d2 O w h0 h1 h2
  by_cases hs : nh ≤ 1024 ∧ nr ≤ 1024 ∧ no ≤ 1024
  · obtain ⟨l0, l1, l2⟩ := hs
    have K0 := bytes7 a0 nh c0 d0 Hd w h0 l0
    have K1 := bytes7 a1 nr c1 d1 R w h1 l1
    have K2 := bytes7 a2 no c2 d2 O w h2 l2
    by_cases hlen : nr = nh
    · subst hlen
      go_enter Try.func5, Try.ntmps5
      go_wp2_with fail
      refine KB.mono ?_
      rintro e w' ⟨r, rfl, hw⟩
      rw [hw]
      clear hw KB
      cases r with
      | false =>
        go_wp2
        go_ret
        exact ⟨rfl, Below.refl _ _⟩
      | true =>
        go_wp2_with fail
        refine K0.mono ?_
        rintro e w' ⟨r0, rfl, hw⟩
        rw [hw]
        clear hw K0
        go_wp2_with fail
        refine K1.mono ?_
        rintro e w' ⟨r1, rfl, hw⟩
        rw [hw]
        clear hw K1
        go_wp2_with fail
        refine K2.mono ?_
        rintro e w' ⟨r2, rfl, hw⟩
        rw [hw]
        clear hw K2
        go_wp2_with fail
        · go_ret
          exact ⟨rfl, Below.refl _ _⟩
        · refine (clone8 a0 nr c0 d0 Hd w z0 h0 l0).mono ?_
          rintro e w1 ⟨x0, e0, t0, rfl, y0, g0, b1⟩
          go_wp2_with fail
          refine (clone8 a1 nr c1 d1 R _ z1 (h1.later b1) l1).mono ?_
          rintro e w2 ⟨x1, e1, t1, rfl, y1, g1, b2⟩
          have B2 := below_on b1 b2
          replace g0 := g0.later b2
          clear b1 b2
          go_wp2_with fail
          refine (clone8 a2 no c2 d2 O _ z2 (h2.later B2) l2).mono ?_
          rintro e w3 ⟨x2, e2, t2, rfl, y2, g2, b3⟩
          have B3 := below_on B2 b3
          replace g0 := g0.later b3
          replace g1 := g1.later b3
          clear B2 b3 h0 h1 h2 z0 z1 z2
          go_wp2_with fail
          refine (header9 x0 nr e0 t0 Hd x0 nr e0 t0 Hd x2 no e2 t2 O _ g0 g0 g2 l0 l0 l2 m0 m0 m2).mono ?_
          rintro e w4 ho
          rcases ho with ⟨ha, b, n, rfl, hst, b4⟩ | ⟨ha, rfl, b4⟩
          · rw [acc_self] at ha
            have hdup : dupB Hd nr = false := by simpa using ha
            have B4 := below_on B3 b4
            replace g0 := g0.later b4
            replace g1 := g1.later b4
            replace g2 := g2.later b4
            clear B3 b4 ha
            go_wp2_with fail
            have kd := dup10 x0 nr e0 t0 Hd w4 g0 l0 y0
            rw [hdup] at kd
            have HDU : Hid (dupB Hd nr = false) := hdup
            clear hdup
            refine kd.mono ?_
            rintro e w5 ⟨rfl, b5⟩
            have B5 := below_on B4 b5
            replace g0 := g0.later b5
            replace g1 := g1.later b5
            replace g2 := g2.later b5
            obtain ⟨D, hown, q1, q2, q3⟩ := hst
            replace hown := own_later hown b5
            have HQ1 : Hid (∀ s, Maps.has D (ks s) = decide (key s ∈ names O no ++ names Hd nr)) := q1
            have HQ2 : Hid (∀ s, key s ∈ names O no ++ names Hd nr → D.atKey (ks s) (.lit (.int .i64 0)) = .lit (.int .i64 (place Hd nr s))) := q2
            clear B4 b5 q1 q2 q3 kd
            go_wp2_with fail
            refine (newrow15 _ _ _ _ _ _ _).mono ?_
            rintro e w6 ⟨rfl, b6⟩
            have B6 := below_on B5 b6
            replace g0 := g0.later b6
            replace g1 := g1.later b6
            replace g2 := g2.later b6
            replace hown := own_later hown b6
            clear B5 b6
            have bx : Below w6.heap.size w6 (w6.alloc (.cells (rowCells x1 nr e1 b) 34)) := (Below.refl _ _).alloc (Nat.le_refl _) _
            have v0 : (w6.alloc (.cells (rowCells x1 nr e1 b) 34)).cell? ⟨w6.heap.size, 0, none⟩ = some (.string ⟨#[105, 110, 46, 99, 115, 118]⟩) := by simp
            have v1 : (w6.alloc (.cells (rowCells x1 nr e1 b) 34)).cell? ⟨w6.heap.size, 1, none⟩ = some (.int .i64 2) := by simp
            have v2 : (w6.alloc (.cells (rowCells x1 nr e1 b) 34)).cell? ⟨w6.heap.size, 2, none⟩ = some (.slice x1 nr e1) := by simp
            have v3 : (w6.alloc (.cells (rowCells x1 nr e1 b) 34)).cell? ⟨w6.heap.size, 3, none⟩ = some (.map (some b)) := by simp
            have v4 : (w6.alloc (.cells (rowCells x1 nr e1 b) 34)).cell? ⟨w6.heap.size, 4, none⟩ = some (.string ⟨#[]⟩) := by simp
            replace g0 := g0.later bx
            replace g1 := g1.later bx
            replace g2 := g2.later bx
            replace hown := own_later hown bx
            replace B6 := below_on B6 bx
            clear bx
            go_wp2_with fail
            go_loopw [10] (fun i wr => ∃ k : Nat, k ≤ nr ∧ i = .int .i64 k ∧ Below (w6.alloc (.cells (rowCells x1 nr e1 b) 34)).heap.size (w6.alloc (.cells (rowCells x1 nr e1 b) 34)) wr) (fun i _ => nr - (intOf i).toNat)
            case atStart => exact ⟨0, Nat.zero_le _, rfl, Below.refl _ _⟩
            case round =>
              obtain ⟨k, hk, rfl, hW⟩ := hrel
              by_cases hlt : k < nr
              · have i1 := g0.1 k hlt nr e0 hlt
                have i2 := g1.1 k hlt nr e1 hlt
                have s1 := cell_regrown (cell_later hW (g0.2 k hlt))
                have s2 := cell_regrown (cell_later hW (g1.2 k hlt))
                have r0 := cell_regrown (cell_later hW v0)
                have r1 := cell_regrown (cell_later hW v1)
                have r2 := cell_regrown (cell_later hW v2)
                have r3 := cell_regrown (cell_later hW v3)
                have r4 := cell_regrown (cell_later hW v4)
                have hmem : key (Hd k) ∈ names O no ++ names Hd nr := List.mem_append.2 (.inr (mem_names.2 (place_self hlt)))
                have hhas : Maps.has D (ks (Hd k)) = true := by rw [HQ1.out]; simpa using hmem
                have hval := HQ2.out _ hmem
                rw [place_own HDU.out hlt] at hval
                have kf := ret_kind (W := wr) (fun wx hx => field16_some ⟨#[105, 110, 46, 99, 115, 118]⟩ 2 x1 nr e1 b n D (Hd k) ⟨#[]⟩ t1 R k wx (own_later (own_later hown hW) hx) ((g1.later hW).later hx) hlt (m0 k hlt) hhas hval)
                have k0 : (k : Int) < nr := by omega
                clear hmem hhas hval
                go_wp2_with fail
                refine wp_region_quiet_below (by kernel_rfl) (by kernel_rfl) ?_
                repeat (first | go_big_quiet_step ((go_at_call 16; exact kf _ _)) | quiet_step ((go_at_call 16; exact kf _ _)))
                refine wpQuiet_nil ?_
                intro w7 h7
                replace h7 := below_on hW (below_of_kind h7)
                clear r0 r1 r2 r3 r4 s1 s2 kf hW
                go_wp2_with fail
                go_roundw
                case rel => exact ⟨k + 1, by omega, by go_num, h7⟩
                case measure => simp [intOf]; omega
              · go_wp2_with fail
                clear hlt hk
                go_loopw [11] (fun i wr => ∃ k : Nat, k ≤ no ∧ i = .int .i64 k ∧ Below (w6.alloc (.cells (rowCells x1 nr e1 b) 34)).heap.size (w6.alloc (.cells (rowCells x1 nr e1 b) 34)) wr) (fun i _ => no - (intOf i).toNat)
                case atStart => exact ⟨0, Nat.zero_le _, rfl, hW⟩
                case round =>
                  clear hW
                  obtain ⟨j, hj, rfl, hW⟩ := hrel
                  by_cases hlt : j < no
                  · have i1 := g2.1 j hlt no e2 hlt
                    have s1 := cell_regrown (cell_later hW (g2.2 j hlt))
                    have r0 := cell_regrown (cell_later hW v0)
                    have r1 := cell_regrown (cell_later hW v1)
                    have r2 := cell_regrown (cell_later hW v2)
                    have r3 := cell_regrown (cell_later hW v3)
                    have r4 := cell_regrown (cell_later hW v4)
                    have ki := ret_kind (W := wr) (fun wx hx => same_ret (index11 x0 nr e0 t0 Hd (O j) wx ((g0.later hW).later hx) (by omega)))
                    have hmem : key (O j) ∈ names O no ++ names Hd nr := List.mem_append.2 (.inl (mem_names.2 (place_self hlt)))
                    have hhas : Maps.has D (ks (O j)) = true := by rw [HQ1.out]; simpa using hmem
                    have hval := HQ2.out _ hmem
                    have hrg := place_range Hd (O j) nr
                    by_cases pc : 0 ≤ place Hd nr (O j)
                    · clear hmem hhas hval hrg
                      generalize place Hd nr (O j) = pl at *
                      have hd : decide (pl < 0) = false := decide_eq_false (by omega)
                      go_wp2_with fail
                      refine wp_region_quiet_below (by kernel_rfl) (by kernel_rfl) ?_
                      repeat (first | go_big_quiet_step ((go_at_call 11; exact ki _ _)) | quiet_step ((go_at_call 11; exact ki _ _)))
                      refine wpQuiet_nil ?_
                      intro w7 h7
                      replace h7 := below_on hW (below_of_kind h7)
                      clear r0 r1 r2 r3 r4 s1 ki hW
                      go_wp2_with fail
                      go_roundw
                      case rel => exact ⟨j + 1, by omega, by go_num, h7⟩
                      case measure => simp [intOf]; omega
                    · have hp1 : place Hd nr (O j) = -1 := by omega
                      rw [hp1] at hval ki
                      have kf := ret_kind (W := wr) (fun wx hx => field16_none ⟨#[105, 110, 46, 99, 115, 118]⟩ 2 x1 nr e1 b n D (O j) ⟨#[]⟩ wx (own_later (own_later hown hW) hx) (m2 j hlt) hhas hval)
                      clear hmem hhas hval hrg hp1 pc
                      go_wp2_with fail
                      refine wp_region_quiet_below (by kernel_rfl) (by kernel_rfl) ?_
                      repeat (first | go_big_quiet_step (first | (go_at_call 11; exact ki _ _) | (go_at_call 16; exact kf _ _)) | quiet_step (first | (go_at_call 11; exact ki _ _) | (go_at_call 16; exact kf _ _)))
                      refine wpQuiet_nil ?_
                      intro w7 h7
                      replace h7 := below_on hW (below_of_kind h7)
                      clear r0 r1 r2 r3 r4 s1 ki kf hW
                      go_wp2_with fail
                      go_roundw
                      case rel => exact ⟨j + 1, by omega, by go_num, h7⟩
                      case measure => simp [intOf]; omega
                  · go_wp2
                    go_ret
                    exact ⟨rfl, below_on B6 hW⟩
          · rw [acc_self] at ha
            have hdup : dupB Hd nr = true := by simpa using ha
            have B4 := below_on B3 b4
            replace g0 := g0.later b4
            clear B3 b4 ha g1 g2
            go_wp2_with fail
            have kd := dup10 x0 nr e0 t0 Hd w4 g0 l0 y0
            rw [hdup] at kd
            clear hdup
            refine kd.mono ?_
            rintro e w5 ⟨rfl, b5⟩
            have B5 := below_on B4 b5
            clear B4 b5 kd
            go_wp2
            go_ret
            exact ⟨rfl, B5⟩
    · have hne : ((nr : Int) != (nh : Int)) = true := by simp; omega
      go_enter Try.func5, Try.ntmps5
      go_wp2_with fail
      refine KB.mono ?_
      rintro e w' ⟨r, rfl, hw⟩
      rw [hw]
      clear hw KB
      cases r with
      | false =>
        go_wp2
        go_ret
        exact ⟨rfl, Below.refl _ _⟩
      | true =>
        go_wp2_with fail
        refine K0.mono ?_
        rintro e w' ⟨r0, rfl, hw⟩
        rw [hw]
        clear hw K0
        go_wp2_with fail
        refine K1.mono ?_
        rintro e w' ⟨r1, rfl, hw⟩
        rw [hw]
        clear hw K1
        go_wp2_with fail
        refine K2.mono ?_
        rintro e w' ⟨r2, rfl, hw⟩
        rw [hw]
        clear hw K2
        go_wp2
        all_goals
          go_ret
          exact ⟨rfl, Below.refl _ _⟩
  · rcases (show 1024 < nh ∨ (nh ≤ 1024 ∧ 1024 < nr) ∨ (nh ≤ 1024 ∧ nr ≤ 1024 ∧ 1024 < no) by omega) with t | ⟨t1, t⟩ | ⟨t1, t2, t⟩
    all_goals
      clear hs h0 h1 h2 z0 z1 z2 m0 m2
      go_enter Try.func5, Try.ntmps5
      go_wp2_with fail
      refine KB.mono ?_
      rintro e w' ⟨r, rfl, hw⟩
      rw [hw]
      clear hw KB
      cases r
      all_goals
        go_wp2
        go_ret
        exact ⟨rfl, Below.refl _ _⟩
end Go.Proofs.Qxb6001386a
