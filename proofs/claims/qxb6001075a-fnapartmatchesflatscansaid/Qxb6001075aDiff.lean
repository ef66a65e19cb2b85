import Derived.Test.Qxb6001075aLog
import Derived.Deep.QuietTactic
import Derived.BigQuiet
namespace Go.Proofs.Qxb6001075a
open Go.RowKit

/-- Do two entries differ? -/
def entNe (x : Int) (y : ByteArray) (x' : Int) (y' : ByteArray) : Bool := !(x == x' && y.toList == y'.toList)

theorem ptrEq39 (w : World) : (Op.equalIn 9999 39 (.pointer none) (.pointer none)).run Try.prog w = .ok true w := by kernel_rfl

theorem neq41 (x : Int) (y : ByteArray) (x' : Int) (y' : ByteArray) (w : World) :
    (binOp .neq 41 (.agg #[.int .u64 x, .string y, .pointer none]) (.agg #[.int .u64 x', .string y', .pointer none])).run Try.prog w = .ok (.bool (entNe x y x' y')) w := by
  have hp := ptrEq39
  go_simp
  unfold entNe
  by_cases h1 : x = x'
  · by_cases h2 : y.toList = y'.toList
    · simp [h1, h2]
    · simp [h1, h2]
  · simp [h1]

/-- r is the first place, counted from 1, at which two lists of entries differ; 0 where there is none among the first m. -/
def FD (T : Nat → Int) (C : Nat → ByteArray) (T' : Nat → Int) (C' : Nat → ByteArray) (m r : Nat) : Prop :=
  (r = 0 ∧ ∀ k, k < m → entNe (T k) (C k) (T' k) (C' k) = false) ∨
  ∃ k, k < m ∧ r = k + 1 ∧ entNe (T k) (C k) (T' k) (C' k) = true ∧ ∀ j, j < k → entNe (T j) (C j) (T' j) (C' j) = false

theorem FD.one {T : Nat → Int} {C : Nat → ByteArray} {T' : Nat → Int} {C' : Nat → ByteArray} {m r r' : Nat} (h : FD T C T' C' m r) (h' : FD T C T' C' m r') : r = r' := by
  rcases h with ⟨h1, h2⟩ | ⟨k, hk, h1, h2, h3⟩ <;> rcases h' with ⟨g1, g2⟩ | ⟨k', hk', g1, g2, g3⟩
  · omega
  · have := h2 k' hk'; rw [this] at g2; cases g2
  · have := g2 k hk; rw [this] at h2; cases h2
  · rcases Nat.lt_trichotomy k k' with h | h | h
    · have := g3 k h; rw [this] at h2; cases h2
    · omega
    · have := h3 k' h; rw [this] at g2; cases g2

def DiffOut (T : Nat → Int) (C : Nat → ByteArray) (T' : Nat → Int) (C' : Nat → ByteArray) (m : Nat) (w : World) (e : Ending) (w' : World) : Prop :=
  ∃ r : Nat, e = .returned (.int .u64 (r : Int)) ∧ FD T C T' C' m r ∧ Below w.heap.size w w'

theorem fd_step {T : Nat → Int} {C : Nat → ByteArray} {T' : Nat → Int} {C' : Nat → ByteArray} {k : Nat} (h : Hid (∀ j, j < k → entNe (T j) (C j) (T' j) (C' j) = false)) (hk : entNe (T k) (C k) (T' k) (C' k) = false) :
    Hid (∀ j, j < k + 1 → entNe (T j) (C j) (T' j) (C' j) = false) := by
  intro j hj
  by_cases e : j = k
  · subst e; exact hk
  · exact h.out j (by omega)

theorem ent_cells {w : World} {b N : Nat} {T : Nat → Int} {C : Nat → ByteArray} (hr : w.rowIs b 41 (N * 3) (entCell T C)) {k : Nat} (hk : k < N) :
    w.cell? ⟨b, k * 3, none⟩ = some (.int .u64 (T k)) ∧ w.cell? ⟨b, k * 3 + 1, none⟩ = some (.string (C k)) ∧ w.cell? ⟨b, k * 3 + 2, none⟩ = some (.pointer none) := by
  refine ⟨?_, ?_, ?_⟩
  · rw [hr.cell (by omega), entCell0]
  · rw [hr.cell (by omega), entCell1]
  · rw [hr.cell (by omega), entCell2]

set_option maxHeartbeats 400000 in
theorem diff13 (b n b' n' : Nat) (T : Nat → Int) (C : Nat → ByteArray) (T' : Nat → Int) (C' : Nat → ByteArray) (w : World) (hr : w.rowIs b 41 (n * 3) (entCell T C)) (hr' : w.rowIs b' 41 (n' * 3) (entCell T' C')) (l : n ≤ 65536) (l' : n' ≤ 65536) :
    Calls Try.prog 13 #[.slice (some ⟨b, 0, none⟩) n n, .slice (some ⟨b', 0, none⟩) n' n'] w (DiffOut T C T' C' (min n n') w) := by
  have hbw := hr.lt
  have hbw' := hr'.lt
  have hne := neq41
  obtain ⟨m, hm⟩ : ∃ m, m = min n n' := ⟨_, rfl⟩
  rw [← hm]
  have hm1 : m ≤ n := by omega
  have hm2 : m ≤ n' := by omega
  have HM : Hid (m = min n n') := hm
  rcases (show (n' < n ∧ m = n') ∨ (n ≤ n' ∧ m = n) by omega) with ⟨hlt, rfl⟩ | ⟨hlt, rfl⟩
  all_goals
    clear hm HM
    go_enter Try.func13, Try.ntmps13
    go_wp2
    go_loopw [6] (fun i wr => ∃ k : Nat, k ≤ m ∧ i = .int .i64 k ∧ Hid (∀ j, j < k → entNe (T j) (C j) (T' j) (C' j) = false) ∧ Below w.heap.size w wr) (fun i _ => m - (intOf i).toNat)
    case atStart => exact ⟨0, Nat.zero_le _, rfl, fun _ h => absurd h (Nat.not_lt_zero _), Below.refl _ _⟩
    case round =>
      obtain ⟨k, hk, rfl, hall, hb⟩ := hrel
      by_cases hkm : k < m
      · obtain ⟨c0, c1, c2⟩ := ent_cells (hr.of_block (hb.block b hbw)) (k := k) (by omega)
        obtain ⟨d0, d1, d2⟩ := ent_cells (hr'.of_block (hb.block b' hbw')) (k := k) (by omega)
        have i1 : (k : Int) < m := by omega
        first
          | have i2 : (k : Int) < n := by omega
          | have i2 : (k : Int) < n' := by omega
        by_cases hd : entNe (T k) (C k) (T' k) (C' k) = true
        · go_wp2
          go_quiet (fail)
          go_wp2
          go_ret
          exact ⟨k + 1, rfl, .inr ⟨k, hkm, rfl, hd, hall.out⟩, below_drewN hb _⟩
        · have hd' : entNe (T k) (C k) (T' k) (C' k) = false := by simpa using hd
          clear hd
          go_wp2
          go_quiet (fail)
          go_wp2
          go_roundw
          case rel => exact ⟨k + 1, by omega, by go_num, fd_step hall hd', below_drewN hb _⟩
          case measure => simp [intOf]; omega
      · obtain rfl : k = m := by omega
        go_wp2
        go_ret
        exact ⟨0, rfl, .inl ⟨rfl, hall.out⟩, hb⟩
end Go.Proofs.Qxb6001075a
