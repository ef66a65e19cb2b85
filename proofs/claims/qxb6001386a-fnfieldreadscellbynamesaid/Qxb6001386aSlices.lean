/-
  Slices of strings, their address left open: one walk serves nil, empty and the rest.
-/
import Derived.Test.Qxb6001386aBase
namespace Go.Proofs.Qxb6001386a
open Go.RowKit

theorem idx22 (b o n c i : Nat) (h : i < n) (w : World) : (Instr.indexAt 22 (.slice (some ⟨b, o, none⟩) n c) (.int .i64 (i : Int))).run Try.prog w = .ok (.pointer (some ⟨b, o + i, none⟩)) w := by
  go_simp

/-- How element i of a slice at 'a' is come to. -/
def Leads (a : Option Addr) (n : Nat) (ad : Nat → Addr) : Prop :=
  ∀ i, i < n → ∀ m c, i < m → ∀ w, (Instr.indexAt 22 (.slice a m c) (.int .i64 (i : Int))).run Try.prog w = .ok (.pointer (some (ad i))) w

/-- The slice at 'a', 'n' long, holds the names f. -/
def Has (w : World) (a : Option Addr) (n : Nat) (ad : Nat → Addr) (f : Nat → ByteArray) : Prop :=
  Leads a n ad ∧ ∀ i, i < n → w.cell? (ad i) = some (.string (f i))

theorem Has.later {w wx : World} {a : Option Addr} {n : Nat} {ad : Nat → Addr} {f : Nat → ByteArray} (h : Has w a n ad f) (hb : Below w.heap.size w wx) : Has wx a n ad f :=
  ⟨h.1, fun i hi => cell_later hb (h.2 i hi)⟩

theorem has_of_cells {w : World} {b o n : Nat} {f : Nat → ByteArray} (h : ∀ i, i < n → w.cell? ⟨b, o + i, none⟩ = some (.string (f i))) : Has w (some ⟨b, o, none⟩) n (fun i => ⟨b, o + i, none⟩) f :=
  ⟨fun i _ m c hm w => idx22 b o m c i hm w, h⟩

theorem has_none {w : World} {a : Option Addr} {n : Nat} (h : n < 1) (ad : Nat → Addr) (f : Nat → ByteArray) : Has w a n ad f :=
  ⟨fun i hi => by omega, fun i hi => by omega⟩

/-- It hands back v; the world stands. -/
def Same (v : Value) (w : World) (e : Ending) (w' : World) : Prop := e = .returned v ∧ w' = w

theorem ret_i64 {a b : Int} (h : a = b) : Ending.returned (.int .i64 a) = .returned (.int .i64 b) := by rw [h]
theorem ret_bool {a b : Bool} (h : a = b) : Ending.returned (.bool a) = .returned (.bool b) := by rw [h]

set_option maxHeartbeats 400000 in
theorem index11 (a : Option Addr) (n c : Nat) (ad : Nat → Addr) (f : Nat → ByteArray) (s : ByteArray) (w : World) (h : Has w a n ad f) (l : n ≤ 1048576) :
    Calls Try.prog 11 #[.slice a n c, .string s] w (Same (.int .i64 (place f n s)) w) := by
  have hld := h.1
  go_enter Try.func11, Try.ntmps11
  go_wp2
  go_loop [5] (fun i => ∃ k : Nat, k ≤ n ∧ i = .int .i64 k ∧ Hid (place f k s = -1)) (fun i => n - (intOf i).toNat)
  case atStart => exact ⟨0, Nat.zero_le _, rfl, rfl⟩
  case round =>
    obtain ⟨k, hk, rfl, hp⟩ := hrel
    by_cases hlt : k < n
    · have i1 := hld k hlt n c hlt
      have hck := h.2 k hlt
      by_cases he : f k = s
      · have hb : ((f k).toList == s.toList) = true := by rw [beq_names]; simpa using he
        have hres := place_hit hp.out he hlt
        have HR : Hid (place f n s = (k : Int)) := hres
        clear he hres hp h hld
        go_wp2
        go_ret
        exact ⟨ret_i64 HR.out.symm, rfl⟩
      · have hb : ((f k).toList == s.toList) = false := by rw [beq_names]; simpa using he
        have hres := place_miss hp.out he
        have HR : Hid (place f (k + 1) s = -1) := hres
        clear he hres hp h hld
        go_wp2
        go_round
        case rel => exact ⟨k + 1, by omega, by go_num, HR⟩
        case measure => simp [intOf]; omega
    · have e : k = n := by omega
      have hres := hp.out
      rw [e] at hres
      have HR : Hid (place f n s = -1) := hres
      clear e hres hp h hld
      go_wp2
      go_ret
      exact ⟨ret_i64 HR.out.symm, rfl⟩

/-- It hands back some int, and nothing has turned. -/
def SomeInt (w : World) (e : Ending) (w' : World) : Prop := ∃ r : Int, e = .returned (.int .i64 r) ∧ w' = w
/-- It hands back some bool, and nothing has turned. -/
def SomeBool (w : World) (e : Ending) (w' : World) : Prop := ∃ r : Bool, e = .returned (.bool r) ∧ w' = w

set_option maxHeartbeats 400000 in
theorem bytes7 (a : Option Addr) (n c : Nat) (ad : Nat → Addr) (f : Nat → ByteArray) (w : World) (h : Has w a n ad f) (l : n ≤ 1024) :
    Calls Try.prog 7 #[.slice a n c] w (SomeInt w) := by
  have hld := h.1
  go_enter Try.func7, Try.ntmps7
  go_wp2
  go_loop [3, 4] (fun t i => ∃ (k : Nat) (z : Int), k ≤ n ∧ i = .int .i64 k ∧ t = .int .i64 z) (fun _ i => n - (intOf i).toNat)
  case atStart => exact ⟨0, _, Nat.zero_le _, rfl, rfl⟩
  case round =>
    obtain ⟨k, z, hk, rfl, rfl⟩ := hrel
    by_cases hlt : k < n
    · have i1 := hld k hlt n c hlt
      have hck := h.2 k hlt
      clear h hld
      go_wp2
      · go_ret
        exact ⟨_, rfl, rfl⟩
      · go_ret
        exact ⟨_, rfl, rfl⟩
      · go_round
        case rel => exact ⟨k + 1, _, by omega, by go_num, rfl⟩
        case measure => simp [intOf]; omega
    · clear h hld
      go_wp2
      go_ret
      exact ⟨_, rfl, rfl⟩

theorem info9 : (Try.prog.info? 9).map (fun i => (i.zero, i.size, i.bytes)) = some (some (.string ByteArray.empty), 1, 16) := by kernel_rfl

/-- It hands back a slice of its own that reads the same. -/
def Cloned (w : World) (n : Nat) (f : Nat → ByteArray) (e : Ending) (w' : World) : Prop :=
  ∃ a c ad, e = .returned (.slice a n c) ∧ n ≤ c ∧ Has w' a n ad f ∧ Below w.heap.size w w'

theorem row_step {w : World} {b : Nat} {t : TypeId} {n k : Nat} {f : Nat → Value} {z : Value} (h : w.rowIs b t n (fun j => if j < k then f j else z)) :
    (w.setCell ⟨b, k, none⟩ (f k)).rowIs b t n (fun j => if j < k + 1 then f j else z) := by
  refine (h.set k (f k)).congr fun i _ => ?_
  by_cases e : i = k
  · subst e; simp
  · by_cases l : i < k
    · simp [e, l, Nat.lt_succ_of_lt l]
    · have : ¬ i < k + 1 := by omega
      simp [e, l, this]

set_option maxHeartbeats 400000 in
theorem clone8 (a : Option Addr) (n c : Nat) (ad : Nat → Addr) (f : Nat → ByteArray) (w : World) (hnil : a = none → n = 0) (h : Has w a n ad f) (l : n ≤ 1024) :
    Calls Try.prog 8 #[.slice a n c] w (Cloned w n f) := by
  have hmk := run_make_row' (P := Try.prog) 22 9 (.string ByteArray.empty) 16 Try.underlying22 info9 rfl .i64 .i64 n (by omega) (by omega)
  have hnl := fun (w : World) (a : Option Addr) (n c : Nat) => Lib.run_eql_slice_nil (P := Try.prog) w 22 9 a n c 0 0 Try.underlying22
  cases a with
  | none =>
    obtain rfl : n = 0 := hnil rfl
    clear h hnil
    go_enter Try.func8, Try.ntmps8
    go_wp2
    go_ret
    exact ⟨_, _, ad, rfl, Nat.le_refl _, has_none (by omega) _ _, Below.refl _ _⟩
  | some ad0 =>
    have hld := h.1
    have hr0 := World.rowIs_made w (.string ByteArray.empty) n 9
    clear hnil
    go_enter Try.func8, Try.ntmps8
    go_wp2
    go_loopw [4] (fun i wr => ∃ k : Nat, k ≤ n ∧ i = .int .i64 k ∧ wr.rowIs w.heap.size 9 n (fun j => if j < k then .string (f j) else .string ByteArray.empty) ∧ Below w.heap.size w wr) (fun i _ => n - (intOf i).toNat)
    case atStart => exact ⟨0, Nat.zero_le _, rfl, hr0.congr (fun i _ => by simp), (Below.refl _ _).alloc (Nat.le_refl _) _⟩
    case round =>
      obtain ⟨k, hk, rfl, hr, hb⟩ := hrel
      clear hr0
      by_cases hlt : k < n
      · have i1 := hld k hlt n c hlt
        have hck := cell_later hb (h.2 k hlt)
        have hcd := hr.cell hlt
        have hfd := hr.frozen k
        have hst := row_step (f := fun j => .string (f j)) hr
        have hbn := hb.setCell (p := ⟨w.heap.size, k, none⟩) (Nat.le_refl _) (.string (f k))
        clear h hld
        go_wp2
        go_roundw
        case rel => exact ⟨k + 1, by omega, by go_num, hst, hbn⟩
        case measure => simp [intOf]; omega
      · clear h hld
        go_wp2
        go_ret
        refine ⟨_, _, _, rfl, Nat.le_refl _, has_of_cells (fun i hi => ?_), hb⟩
        have := hr.cell hi
        rw [if_pos (by omega)] at this
        simpa using this
end Go.Proofs.Qxb6001386a
