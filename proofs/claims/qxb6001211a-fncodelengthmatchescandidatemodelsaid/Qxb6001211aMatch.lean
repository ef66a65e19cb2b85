import Derived.Test.Qxb6001211aOwn
import Derived.Test.Qxb6001211aModel
namespace Go.Proofs.Qxb6001211a
open Go.RowKit

/-- The row of the copy after k bytes. -/
def CpInv (n k : Nat) (f : Nat → Int) (b : Nat) (w : World) : Prop := w.rowIs b 5 n (fun j => if j < k then .int .u8 (f j) else .int .u8 0)

theorem CpInv.step {n k b : Nat} {f : Nat → Int} {w : World} (h : CpInv n k f b w) : CpInv n (k + 1) f b (w.setCell ⟨b, k, none⟩ (.int .u8 (f k))) := by
  refine (World.rowIs.set h k (.int .u8 (f k))).congr fun i _ => ?_
  by_cases e : i = k
  · subst e; simp
  · by_cases l : i < k
    · simp [e, l, Nat.lt_succ_of_lt l]
    · have : ¬ i < k + 1 := by omega
      simp [e, l, this]

theorem CpInv.done {n b : Nat} {f : Nat → Int} {w : World} (h : CpInv n n f b w) : ∀ i, i < n → w.cell? ⟨b, 0 + i, none⟩ = some (.int .u8 (f i)) := by
  intro i hi
  have := World.rowIs.cell h hi
  rw [if_pos hi] at this
  simpa using this

set_option maxHeartbeats 1000000 in
theorem walk3 (a0 : Option Addr) (n c0 : Nat) (f : Nat → Int) (w : World) (h0 : Has w a0 n f) (hf : ∀ i, i < n → 0 ≤ f i ∧ f i ≤ 255) :
    Calls Try.prog 3 #[.slice a0 n c0] w (Yes w) := by
  by_cases hs : n ≤ 1048576 ∧ 1 ≤ n
  · obtain ⟨s1, s4⟩ := hs
    have hmk := run_make_row' (P := Try.prog) 22 5 (.int .u8 0) 1 Try.underlying22 info5 rfl .i64 .i64 n (by omega) (by omega)
    have hi0 : CpInv n 0 f w.heap.size (w.alloc (.cells (madeCells #[.int .u8 0] n) 5)) := (World.rowIs_made w (.int .u8 0) n 5).congr (fun i _ => by simp)
    have HF : Hid (∀ i, i < n → 0 ≤ f i ∧ f i ≤ 255) := hf
    clear hf
    rcases h0 with h0 | ⟨b, o, rfl, hc⟩
    · omega
    · go_enter Try.func3, Try.ntmps3
      go_wp2_with fail
      refine (bytes5 _ _ _ _).mono ?_
      rintro e w' ⟨he, hw⟩
      rw [hw]
      clear hw
      rcases he with rfl | rfl
      · go_wp2_with fail
        go_loopw [4] (fun i wr => ∃ k : Nat, k ≤ n ∧ i = .int .i64 k ∧ CpInv n k f w.heap.size wr ∧ Below w.heap.size w wr) (fun i _ => n - (intOf i).toNat)
        case atStart => exact ⟨0, Nat.zero_le _, rfl, hi0, (Below.refl _ _).alloc (Nat.le_refl _) _⟩
        case round =>
          obtain ⟨k, hk, rfl, hi, hb⟩ := hrel
          clear hi0
          by_cases hlt : k < n
          · have hck := cell_later hb (hc k hlt)
            have hcd := World.rowIs.cell hi hlt
            have hfd := World.rowIs.frozen hi k
            have hst := hi.step
            have hbn := hb.setCell (p := ⟨w.heap.size, k, none⟩) (Nat.le_refl _) (.int .u8 (f k))
            rw [if_neg (by omega)] at hcd
            go_wp2
            go_roundw
            case rel => exact ⟨k + 1, by omega, by go_num, hst, hbn⟩
            case measure => simp [intOf]; omega
          · have e : k = n := by omega
            rw [e] at hi
            clear e
            have hcell := hi.done
            clear hi
            have k1 := code6 w.heap.size 0 n n f wr hcell s4 s1
            have k2 := model7 w.heap.size 0 n n f wr hcell s4 s1 HF.out
            clear hcell
            generalize codeLen f n = v at *
            go_wp2_with fail
            refine k1.mono ?_
            rintro e w' ⟨rfl, hw⟩
            rw [hw]
            clear hw k1
            go_wp2_with fail
            refine k2.mono ?_
            rintro e w' ⟨rfl, hw⟩
            rw [hw]
            clear hw k2
            go_wp2
            go_ret
            exact ⟨rfl, hb⟩
      · go_wp2
        go_ret
        exact ⟨rfl, Below.refl _ _⟩
  · rcases (show 1048576 < n ∨ (n ≤ 1048576 ∧ n < 1) by omega) with t | ⟨t1, t⟩
    all_goals
      clear hs h0 hf
      go_enter Try.func3, Try.ntmps3
      go_wp2_with fail
      refine (bytes5 _ _ _ _).mono ?_
      rintro e w' ⟨he, hw⟩
      rw [hw]
      clear hw
      rcases he with rfl | rfl
      all_goals
        go_wp2
        go_ret
        exact ⟨rfl, Below.refl _ _⟩
end Go.Proofs.Qxb6001211a
