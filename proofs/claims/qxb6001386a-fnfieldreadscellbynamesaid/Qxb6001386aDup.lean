import Derived.Test.Qxb6001386aSlices
import Derived.Deep.QuietTactic
import Derived.BigQuiet
namespace Go.Proofs.Qxb6001386a
open Go.RowKit

/-- It hands back v; of what was there nothing has turned. -/
def Ret (v : Value) (w : World) (e : Ending) (w' : World) : Prop := e = .returned v ∧ Below w.heap.size w w'

theorem below_on {w1 wr w2 : World} (h : Below w1.heap.size w1 wr) (h2 : Below wr.heap.size wr w2) : Below w1.heap.size w1 w2 := h.trans (h2.mono h.size)

theorem Has.take {w : World} {a : Option Addr} {n k : Nat} {ad : Nat → Addr} {f : Nat → ByteArray} (h : Has w a n ad f) (hk : k ≤ n) : Has w a k ad f :=
  ⟨fun i hi => h.1 i (by omega), fun i hi => h.2 i (by omega)⟩

theorem Has.drewN {w : World} {a : Option Addr} {n : Nat} {ad : Nat → Addr} {f : Nat → ByteArray} (h : Has w a n ad f) (q : Nat) : Has (w.drewN q) a n ad f :=
  h.later (below_drewN (Below.refl _ _) q)

set_option maxHeartbeats 400000 in
theorem dup10 (a : Option Addr) (n c : Nat) (ad : Nat → Addr) (f : Nat → ByteArray) (w : World) (h : Has w a n ad f) (l : n ≤ 1024) (hc : n ≤ c) :
    Calls Try.prog 10 #[.slice a n c] w (Ret (.bool (dupB f n)) w) := by
  go_enter Try.func10, Try.ntmps10
  go_wp2
  go_loopw [3] (fun i wr => ∃ k : Nat, 1 ≤ k ∧ i = .int .i64 k ∧ Hid (allB k (fun i => decide (place f i (f i) < 0)) = true) ∧ Below w.heap.size w wr) (fun i _ => n - (intOf i).toNat)
  case atStart => exact ⟨1, Nat.le_refl _, rfl, rfl, Below.refl _ _⟩
  case round =>
    obtain ⟨k, hk, rfl, hp, hb⟩ := hrel
    by_cases hlt : k < n
    · have i1 := h.1 k hlt n c hlt
      have hck := cell_later hb (h.2 k hlt)
      have k1 : (k : Int) ≤ c := by omega
      have hcall := fun q => Calls.quiet_of_same (index11 a k c ad f (f k) (wr.drewN q) (((h.later hb).take (by omega)).drewN q) (by omega))
      have hr := place_range f (f k) k
      by_cases hpl : 0 ≤ place f k (f k)
      · have hres : dupB f n = true := by
          unfold dupB
          rw [allB_false hlt (by simpa using hpl)]
          rfl
        have HR : Hid (dupB f n = true) := hres
        clear h hres hp hr
        generalize place f k (f k) = pl at *
        go_wp2
        go_quiet ((go_at_call 11; exact hcall _))
        go_wp2
        go_ret
        exact ⟨ret_bool HR.out.symm, below_drewN hb _⟩
      · have hnx : allB (k + 1) (fun i => decide (place f i (f i) < 0)) = true := by
          simp only [allB, hp.out, Bool.true_and]
          simp; omega
        have HN : Hid (allB (k + 1) (fun i => decide (place f i (f i) < 0)) = true) := hnx
        clear h hnx hp hr
        generalize place f k (f k) = pl at *
        go_wp2
        go_quiet ((go_at_call 11; exact hcall _))
        go_wp2
        go_roundw
        case rel => exact ⟨k + 1, by omega, by go_num, HN, below_drewN hb _⟩
        case measure => simp [intOf]; omega
    · have hres : dupB f n = false := by
        unfold dupB
        rw [allB_true.2 (fun i hi => (allB_true.1 hp.out) i (by omega))]
        rfl
      have HR : Hid (dupB f n = false) := hres
      clear h hres hp
      go_wp2
      go_ret
      exact ⟨ret_bool HR.out.symm, hb⟩
end Go.Proofs.Qxb6001386a
