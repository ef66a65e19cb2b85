import Derived.Test.Qxb6001075aClone
namespace Go.Proofs.Qxb6001075a
open Go.RowKit

theorem info41 : (Try.prog.info? 41).map (fun i => (i.zero, i.size, i.bytes)) = some (some (.agg #[.int .u64 0, .string ByteArray.empty, .pointer none]), 3, 32) := by kernel_rfl

theorem make41 (n : Nat) (h : n ≤ 65536) (w : World) : (Instr.makeSlice 30 (.int .i64 (n : Int)) (.int .i64 (n : Int))).run Try.prog w = .ok (.slice (some ⟨w.heap.size, 0, none⟩) n n) (w.alloc (.cells (madeCells #[.int .u64 0, .string ByteArray.empty, .pointer none] (n * 3)) 41)) := by
  obtain ⟨i, hi, hz0, hz1, hz2⟩ := info_parts info41
  have hr := run_make (P := Try.prog) w 30 41 i _ Try.underlying30 hi hz0 .i64 .i64 n n (by omega) (Int.le_refl _) (by rw [hz2]; omega) (by omega)
  simpa [hz1, Value.cells] using hr

/-- Cell j of a row of entries. -/
def entCell (T : Nat → Int) (C : Nat → ByteArray) (j : Nat) : Value :=
  if j % 3 = 0 then .int .u64 (T (j / 3)) else if j % 3 = 1 then .string (C (j / 3)) else .pointer none


theorem entCell0 (T : Nat → Int) (C : Nat → ByteArray) (k : Nat) : entCell T C (k * 3) = .int .u64 (T k) := by
  have h1 : k * 3 % 3 = 0 := by omega
  have h2 : k * 3 / 3 = k := by omega
  simp [entCell, h1, h2]
theorem entCell1 (T : Nat → Int) (C : Nat → ByteArray) (k : Nat) : entCell T C (k * 3 + 1) = .string (C k) := by
  have h1 : (k * 3 + 1) % 3 = 1 := by omega
  have h2 : (k * 3 + 1) / 3 = k := by omega
  simp [entCell, h1, h2]
theorem entCell2 (T : Nat → Int) (C : Nat → ByteArray) (k : Nat) : entCell T C (k * 3 + 2) = .pointer none := by
  have h1 : (k * 3 + 2) % 3 = 2 := by omega
  simp [entCell, h1]

theorem ent_setT {w : World} {b m k : Nat} {T : Nat → Int} {C : Nat → ByteArray} (h : w.rowIs b 41 m (entCell T C)) (x : Int) :
    (w.setCell ⟨b, k * 3, none⟩ (.int .u64 x)).rowIs b 41 m (entCell (fun j => if j = k then x else T j) C) := by
  refine (h.set (k * 3) (.int .u64 x)).congr fun i _ => ?_
  by_cases e : i = k * 3
  · subst e; rw [if_pos rfl, entCell0]; simp
  · rw [if_neg e]
    unfold entCell
    by_cases h0 : i % 3 = 0
    · have : ¬ i / 3 = k := by omega
      simp [h0, this]
    · simp [h0]
theorem ent_setC {w : World} {b m k : Nat} {T : Nat → Int} {C : Nat → ByteArray} (h : w.rowIs b 41 m (entCell T C)) (x : ByteArray) :
    (w.setCell ⟨b, k * 3 + 1, none⟩ (.string x)).rowIs b 41 m (entCell T (fun j => if j = k then x else C j)) := by
  refine (h.set (k * 3 + 1) (.string x)).congr fun i _ => ?_
  by_cases e : i = k * 3 + 1
  · subst e; rw [if_pos rfl, entCell1]; simp
  · rw [if_neg e]
    unfold entCell
    by_cases h0 : i % 3 = 0
    · simp [h0]
    · by_cases h1 : i % 3 = 1
      · have : ¬ i / 3 = k := by omega
        simp [h1, this]
      · simp [h0, h1]

/-- The command of entry j. -/
def cmdOf (n' : Nat) (g : Nat → ByteArray) (j : Nat) : ByteArray := if j < n' then g j else ByteArray.empty

/-- After k rounds. -/
def EntInv (n k n' : Nat) (f : Nat → Int) (g : Nat → ByteArray) (b : Nat) (w : World) : Prop :=
  ∃ T C, w.rowIs b 41 (n * 3) (entCell T C) ∧ (∀ j, j < k → T j = f j ∧ C j = cmdOf n' g j) ∧ ∀ j, k ≤ j → C j = ByteArray.empty

theorem EntInv.start (w : World) (n n' : Nat) (f : Nat → Int) (g : Nat → ByteArray) :
    EntInv n 0 n' f g w.heap.size (w.alloc (.cells (madeCells #[.int .u64 0, .string ByteArray.empty, .pointer none] (n * 3)) 41)) := by
  refine ⟨fun _ => 0, fun _ => ByteArray.empty, ?_, fun j hj => absurd hj (Nat.not_lt_zero _), fun _ _ => rfl⟩
  refine ⟨_, Deep.blk_alloc_new _ _, size_madeCells _ _, fun i hi => ?_⟩
  simp only [madeCells, entCell]
  rcases (show i % 3 = 0 ∨ i % 3 = 1 ∨ i % 3 = 2 by omega) with h | h | h <;> simp [hi, h]

theorem EntInv.stepBoth {n k n' b : Nat} {f : Nat → Int} {g : Nat → ByteArray} {w : World} (h : EntInv n k n' f g b w) (hk : k < n') :
    EntInv n (k + 1) n' f g b ((w.setCell ⟨b, k * 3, none⟩ (.int .u64 (f k))).setCell ⟨b, k * 3 + 1, none⟩ (.string (g k))) := by
  obtain ⟨T, C, hr, h1, h2⟩ := h
  refine ⟨_, _, ent_setC (ent_setT hr (f k)) (g k), fun j hj => ?_, fun j hj => ?_⟩
  · by_cases e : j = k
    · subst e; simp [cmdOf, hk]
    · simp only [e, if_false]; exact h1 j (by omega)
  · have e : ¬ j = k := by omega
    simp only [e, if_false]; exact h2 j (by omega)
theorem EntInv.stepOne {n k n' b : Nat} {f : Nat → Int} {g : Nat → ByteArray} {w : World} (h : EntInv n k n' f g b w) (hk : ¬ k < n') :
    EntInv n (k + 1) n' f g b (w.setCell ⟨b, k * 3, none⟩ (.int .u64 (f k))) := by
  obtain ⟨T, C, hr, h1, h2⟩ := h
  refine ⟨_, _, ent_setT hr (f k), fun j hj => ?_, fun j hj => h2 j (by omega)⟩
  by_cases e : j = k
  · subst e; simp [cmdOf, hk, h2 j (Nat.le_refl _)]
  · simp only [e, if_false]; exact h1 j (by omega)

theorem EntInv.done {n n' b : Nat} {f : Nat → Int} {g : Nat → ByteArray} {w : World} (h : EntInv n n n' f g b w) : w.rowIs b 41 (n * 3) (entCell f (cmdOf n' g)) := by
  obtain ⟨T, C, hr, h1, h2⟩ := h
  refine hr.congr fun i hi => ?_
  obtain ⟨e1, e2⟩ := h1 (i / 3) (by omega)
  simp [entCell, e1, e2]

theorem EntInv.cells {n k n' b : Nat} {f : Nat → Int} {g : Nat → ByteArray} {w : World} (h : EntInv n k n' f g b w) (hk : k < n) :
    (∃ x, w.cell? ⟨b, k * 3, none⟩ = some (.int .u64 x)) ∧ (∃ y, w.cell? ⟨b, k * 3 + 1, none⟩ = some (.string y)) ∧ w.frozen? ⟨b, k * 3, none⟩ = false ∧ w.frozen? ⟨b, k * 3 + 1, none⟩ = false := by
  obtain ⟨T, C, hr, h1, h2⟩ := h
  refine ⟨⟨T k, ?_⟩, ⟨C k, ?_⟩, hr.frozen _, hr.frozen _⟩
  · rw [hr.cell (by omega), entCell0]
  · rw [hr.cell (by omega), entCell1]

/-- It hands back a new row of n entries. -/
def Entried (w : World) (n n' : Nat) (f : Nat → Int) (g : Nat → ByteArray) (e : Ending) (w' : World) : Prop :=
  ∃ b, e = .returned (.slice (some ⟨b, 0, none⟩) n n) ∧ w'.rowIs b 41 (n * 3) (entCell f (cmdOf n' g)) ∧ Below w.heap.size w w'

set_option maxHeartbeats 400000 in
theorem entries10 (a : Option Addr) (n c : Nat) (f : Nat → Int) (a' : Option Addr) (n' c' : Nat) (g : Nat → ByteArray) (w : World) (h : Has w a n (fun i => .int .u64 (f i))) (l : n ≤ 65536) (h' : Has w a' n' (fun i => .string (g i))) (l' : n' ≤ 65536) :
    Calls Try.prog 10 #[.slice a n c, .slice a' n' c'] w (Entried w n n' f g) := by
  have hmk := make41 n l
  have hi0 := EntInv.start w n n' f g
  rcases h with h | ⟨b, o, rfl, hc⟩ <;> rcases h' with h' | ⟨b', o', rfl, hc'⟩
  all_goals
    go_enter Try.func10, Try.ntmps10
    go_wp2
    go_loopw [6] (fun i wr => ∃ k : Nat, k ≤ n ∧ i = .int .i64 k ∧ EntInv n k n' f g w.heap.size wr ∧ Below w.heap.size w wr) (fun i _ => n - (intOf i).toNat)
    case atStart => exact ⟨0, Nat.zero_le _, rfl, hi0, (Below.refl _ _).alloc (Nat.le_refl _) _⟩
    case round =>
      obtain ⟨k, hk, rfl, hi, hb⟩ := hrel
      clear hi0
      by_cases hlt : k < n
      · first
        | (exfalso; omega)
        | have hck := cell_later hb (hc k hlt)
          obtain ⟨⟨x, hx⟩, ⟨y, hy⟩, f1, f2⟩ := hi.cells hlt
          by_cases hkt : k < n'
          · first
            | (exfalso; omega)
            | have hck' := cell_later hb (hc' k hkt)
              have hbl : b' < w.heap.size := World.block_lt_of_cell? _ _ (hc' k hkt)
              have hne : ¬ w.heap.size = b' := by omega
              have hs := hi.stepBoth hkt
              have hbn := (hb.setCell (p := ⟨w.heap.size, k * 3, none⟩) (Nat.le_refl _) (.int .u64 (f k))).setCell (p := ⟨w.heap.size, k * 3 + 1, none⟩) (Nat.le_refl _) (.string (g k))
              go_wp2
              go_roundw
              case rel => exact ⟨k + 1, by omega, by go_num, hs, hbn⟩
              case measure => simp [intOf]; omega
          · have hs := hi.stepOne hkt
            have hbn := hb.setCell (p := ⟨w.heap.size, k * 3, none⟩) (Nat.le_refl _) (.int .u64 (f k))
            go_wp2
            go_roundw
            case rel => exact ⟨k + 1, by omega, by go_num, hs, hbn⟩
            case measure => simp [intOf]; omega
      · obtain rfl : k = n := by omega
        go_wp2
        go_ret
        exact ⟨_, rfl, hi.done, hb⟩
end Go.Proofs.Qxb6001075a
