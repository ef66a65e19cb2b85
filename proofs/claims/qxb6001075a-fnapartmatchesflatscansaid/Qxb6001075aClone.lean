import Derived.Test.Qxb6001075aBase
namespace Go.Proofs.Qxb6001075a
open Go.RowKit

theorem info3 : (Try.prog.info? 3).map (fun i => (i.zero, i.size, i.bytes)) = some (some (.int .i64 0), 1, 8) := by kernel_rfl
theorem info9 : (Try.prog.info? 9).map (fun i => (i.zero, i.size, i.bytes)) = some (some (.string ByteArray.empty), 1, 16) := by kernel_rfl
theorem info36 : (Try.prog.info? 36).map (fun i => (i.zero, i.size, i.bytes)) = some (some (.int .u64 0), 1, 8) := by kernel_rfl

/-- It hands back a slice of its own that reads the same. -/
def Cloned (w : World) (n : Nat) (f : Nat → Value) (e : Ending) (w' : World) : Prop :=
  ∃ a c, e = .returned (.slice a n c) ∧ Has w' a n f ∧ Below w.heap.size w w'

theorem row_has {w : World} {b : Nat} {t : TypeId} {n : Nat} {f : Nat → Value} (h : w.rowIs b t n f) : Has w (some ⟨b, 0, none⟩) n f :=
  .inr ⟨b, 0, rfl, fun i hi => by simpa using h.cell hi⟩

theorem row_step {w : World} {b : Nat} {t : TypeId} {n k : Nat} {f : Nat → Value} {z : Value} (h : w.rowIs b t n (fun j => if j < k then f j else z)) :
    (w.setCell ⟨b, k, none⟩ (f k)).rowIs b t n (fun j => if j < k + 1 then f j else z) := by
  refine (h.set k (f k)).congr fun i _ => ?_
  by_cases e : i = k
  · subst e; simp
  · by_cases l : i < k
    · simp [e, l, Nat.lt_succ_of_lt l]
    · have : ¬ i < k + 1 := by omega
      simp [e, l, this]


set_option maxHeartbeats 400000 in
theorem clone7 (a : Option Addr) (n c : Nat) (f : Nat → Int) (w : World) (h : Has w a n (fun i => .int .u64 (f i))) (l : n ≤ 65536) :
    Calls Try.prog 7 #[.slice a n c] w (Cloned w n (fun i => .int .u64 (f i))) := by
  have hmk := run_make_row' (P := Try.prog) 22 36 (.int .u64 0) 8 Try.underlying22 info36 rfl .i64 .i64 n (by omega) (by omega)
  have hnl := fun (w : World) (a : Option Addr) (n c : Nat) => Lib.run_eql_slice_nil (P := Try.prog) w 22 36 a n c 0 0 Try.underlying22
  rcases h with h | ⟨b, o, rfl, hc⟩
  · cases a with
    | none =>
      obtain rfl : n = 0 := by omega
      go_enter Try.func7, Try.ntmps7
      go_wp2
      go_ret
      exact ⟨_, _, rfl, .inl (by omega), Below.refl _ _⟩
    | some ad =>
      go_enter Try.func7, Try.ntmps7
      go_wp2
      refine wp_loop_rounds 1 ?_
      rw [rounds_succ]
      go_wp2
      go_ret
      exact ⟨_, _, rfl, .inl h, (Below.refl _ _).alloc (Nat.le_refl _) _⟩
  · have hr0 := World.rowIs_made w (.int .u64 0) n 36
    go_enter Try.func7, Try.ntmps7
    go_wp2
    go_loopw [4] (fun i wr => ∃ k : Nat, k ≤ n ∧ i = .int .i64 k ∧ wr.rowIs w.heap.size 36 n (fun j => if j < k then .int .u64 (f j) else (.int .u64 0)) ∧ Below w.heap.size w wr) (fun i _ => n - (intOf i).toNat)
    case atStart => exact ⟨0, Nat.zero_le _, rfl, hr0.congr (fun i _ => by simp), (Below.refl _ _).alloc (Nat.le_refl _) _⟩
    case round =>
      obtain ⟨k, hk, rfl, hr, hb⟩ := hrel
      clear hr0
      by_cases hlt : k < n
      · have hck := cell_later hb (hc k hlt)
        have hcd := hr.cell hlt
        have hfd := hr.frozen k
        have hst := row_step (f := fun j => .int .u64 (f j)) hr
        have hbn := hb.setCell (p := ⟨w.heap.size, k, none⟩) (Nat.le_refl _) (.int .u64 (f k))
        go_wp2
        go_roundw
        case rel => exact ⟨k + 1, by omega, by go_num, hst, hbn⟩
        case measure => simp [intOf]; omega
      · go_wp2
        go_ret
        refine ⟨_, _, rfl, row_has (hr.congr fun i hi => ?_), hb⟩
        rw [if_pos (by omega)]

set_option maxHeartbeats 400000 in
theorem clone8 (a : Option Addr) (n c : Nat) (f : Nat → ByteArray) (w : World) (h : Has w a n (fun i => .string (f i))) (l : n ≤ 65536) :
    Calls Try.prog 8 #[.slice a n c] w (Cloned w n (fun i => .string (f i))) := by
  have hmk := run_make_row' (P := Try.prog) 23 9 (.string ByteArray.empty) 16 Try.underlying23 info9 rfl .i64 .i64 n (by omega) (by omega)
  have hnl := fun (w : World) (a : Option Addr) (n c : Nat) => Lib.run_eql_slice_nil (P := Try.prog) w 23 9 a n c 0 0 Try.underlying23
  rcases h with h | ⟨b, o, rfl, hc⟩
  · cases a with
    | none =>
      obtain rfl : n = 0 := by omega
      go_enter Try.func8, Try.ntmps8
      go_wp2
      go_ret
      exact ⟨_, _, rfl, .inl (by omega), Below.refl _ _⟩
    | some ad =>
      go_enter Try.func8, Try.ntmps8
      go_wp2
      refine wp_loop_rounds 1 ?_
      rw [rounds_succ]
      go_wp2
      go_ret
      exact ⟨_, _, rfl, .inl h, (Below.refl _ _).alloc (Nat.le_refl _) _⟩
  · have hr0 := World.rowIs_made w (.string ByteArray.empty) n 9
    go_enter Try.func8, Try.ntmps8
    go_wp2
    go_loopw [4] (fun i wr => ∃ k : Nat, k ≤ n ∧ i = .int .i64 k ∧ wr.rowIs w.heap.size 9 n (fun j => if j < k then .string (f j) else (.string ByteArray.empty)) ∧ Below w.heap.size w wr) (fun i _ => n - (intOf i).toNat)
    case atStart => exact ⟨0, Nat.zero_le _, rfl, hr0.congr (fun i _ => by simp), (Below.refl _ _).alloc (Nat.le_refl _) _⟩
    case round =>
      obtain ⟨k, hk, rfl, hr, hb⟩ := hrel
      clear hr0
      by_cases hlt : k < n
      · have hck := cell_later hb (hc k hlt)
        have hcd := hr.cell hlt
        have hfd := hr.frozen k
        have hst := row_step (f := fun j => .string (f j)) hr
        have hbn := hb.setCell (p := ⟨w.heap.size, k, none⟩) (Nat.le_refl _) (.string (f k))
        go_wp2
        go_roundw
        case rel => exact ⟨k + 1, by omega, by go_num, hst, hbn⟩
        case measure => simp [intOf]; omega
      · go_wp2
        go_ret
        refine ⟨_, _, rfl, row_has (hr.congr fun i hi => ?_), hb⟩
        rw [if_pos (by omega)]

set_option maxHeartbeats 400000 in
theorem clone9 (a : Option Addr) (n c : Nat) (f : Nat → Int) (w : World) (h : Has w a n (fun i => .int .i64 (f i))) (l : n ≤ 65536) :
    Calls Try.prog 9 #[.slice a n c] w (Cloned w n (fun i => .int .i64 (f i))) := by
  have hmk := run_make_row' (P := Try.prog) 24 3 (.int .i64 0) 8 Try.underlying24 info3 rfl .i64 .i64 n (by omega) (by omega)
  have hnl := fun (w : World) (a : Option Addr) (n c : Nat) => Lib.run_eql_slice_nil (P := Try.prog) w 24 3 a n c 0 0 Try.underlying24
  rcases h with h | ⟨b, o, rfl, hc⟩
  · cases a with
    | none =>
      obtain rfl : n = 0 := by omega
      go_enter Try.func9, Try.ntmps9
      go_wp2
      go_ret
      exact ⟨_, _, rfl, .inl (by omega), Below.refl _ _⟩
    | some ad =>
      go_enter Try.func9, Try.ntmps9
      go_wp2
      refine wp_loop_rounds 1 ?_
      rw [rounds_succ]
      go_wp2
      go_ret
      exact ⟨_, _, rfl, .inl h, (Below.refl _ _).alloc (Nat.le_refl _) _⟩
  · have hr0 := World.rowIs_made w (.int .i64 0) n 3
    go_enter Try.func9, Try.ntmps9
    go_wp2
    go_loopw [4] (fun i wr => ∃ k : Nat, k ≤ n ∧ i = .int .i64 k ∧ wr.rowIs w.heap.size 3 n (fun j => if j < k then .int .i64 (f j) else (.int .i64 0)) ∧ Below w.heap.size w wr) (fun i _ => n - (intOf i).toNat)
    case atStart => exact ⟨0, Nat.zero_le _, rfl, hr0.congr (fun i _ => by simp), (Below.refl _ _).alloc (Nat.le_refl _) _⟩
    case round =>
      obtain ⟨k, hk, rfl, hr, hb⟩ := hrel
      clear hr0
      by_cases hlt : k < n
      · have hck := cell_later hb (hc k hlt)
        have hcd := hr.cell hlt
        have hfd := hr.frozen k
        have hst := row_step (f := fun j => .int .i64 (f j)) hr
        have hbn := hb.setCell (p := ⟨w.heap.size, k, none⟩) (Nat.le_refl _) (.int .i64 (f k))
        go_wp2
        go_roundw
        case rel => exact ⟨k + 1, by omega, by go_num, hst, hbn⟩
        case measure => simp [intOf]; omega
      · go_wp2
        go_ret
        refine ⟨_, _, rfl, row_has (hr.congr fun i hi => ?_), hb⟩
        rw [if_pos (by omega)]

end Go.Proofs.Qxb6001075a
