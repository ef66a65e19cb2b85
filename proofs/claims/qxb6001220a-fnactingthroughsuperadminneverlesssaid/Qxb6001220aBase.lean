/-
  The walks of FnActingThroughSuperAdminNeverLess and of what it calls.
-/
import Derived.Test.Qxb6001220aRows
import Derived.WalkKit
import Derived.WalkSpells
import Derived.WalkLawsBesides
import Derived.Deep.OwnRows
namespace Go.Proofs.Qxb6001220a
open Go.RowKit

/-- It hands back v; of what was there nothing has turned. -/
def Ret (v : Value) (w : World) (e : Ending) (w' : World) : Prop := e = .returned v ∧ Below w.heap.size w w'

theorem below_on {w1 wr w2 : World} (h : Below w1.heap.size w1 wr) (h2 : Below wr.heap.size wr w2) : Below w1.heap.size w1 w2 := h.trans (h2.mono h.size)

set_option maxHeartbeats 400000 in
theorem bytes15 (a0 a1 a2 : ByteArray) (r : Int) (w0 : a0.size ≤ maxLen) (w1 : a1.size ≤ maxLen) (w2 : a2.size ≤ maxLen) (w : World) :
    Calls Try.prog 15 #[.string a0, .string a1, .string a2, .int .u8 r] w fun e w' => (e = .returned (.bool true) ∨ e = .returned (.bool false)) ∧ w' = w := by
  unfold maxLen at w0 w1 w2
  go_enter Try.func15, Try.ntmps15
  go_wp2
  all_goals go_ret
  all_goals first
    | exact ⟨.inl rfl, rfl⟩
    | exact ⟨.inr rfl, rfl⟩

/-- What 'actingThrough' answers. -/
def dec (sa : Bool) (uid mid tid : ByteArray) (r : Int) : Value :=
  if sa = true then .agg #[.bool true, .string ⟨#[]⟩, .string uid, .string tid, .string mid, .int .u8 3]
  else if 1 ≤ r ∧ r ≤ 3 then .agg #[.bool true, .string ⟨#[]⟩, .string uid, .string tid, .string mid, .int .u8 r]
  else .agg #[.bool false, .string ⟨#[110, 111, 116, 45, 97, 45, 109, 101, 109, 98, 101, 114]⟩, .string ⟨#[]⟩, .string ⟨#[]⟩, .string ⟨#[]⟩, .int .u8 0]

set_option maxHeartbeats 2000000 in
theorem acting22 (p : Nat) (sa : Bool) (uid mid tid : ByteArray) (r : Int) (w : World) (c0 : w.cell? ⟨p, 0, none⟩ = some (.string uid)) (c1 : w.cell? ⟨p, 1, none⟩ = some (.bool sa)) :
    Calls Try.prog 22 #[.pointer (some ⟨p, 0, none⟩), .agg #[.string mid, .string tid, .int .u8 r]] w (Ret (dec sa uid mid tid r) w) := by
  have hp : p < w.heap.size := World.block_lt_of_cell? _ _ c0
  have hp1 : p < w.heap.size + 1 := by omega
  have hp2 : p < w.heap.size + 1 + 1 := by omega
  have fin : ∀ o1 o2 o3, Below w.heap.size w (((w.alloc o1).alloc o2).alloc o3).drew := fun o1 o2 o3 => ((((Below.refl _ _).alloc (Nat.le_refl _) _).alloc (by simp) _).alloc (by simp; omega) _).drew
  cases sa with
  | true =>
    rw [show dec true uid mid tid r = .agg #[.bool true, .string ⟨#[]⟩, .string uid, .string tid, .string mid, .int .u8 3] from rfl]
    go_enter Try.func22, Try.ntmps22
    go_wp2
    go_region
    all_goals
      go_wp2
      exact bodyPost_ret (v := .agg #[.bool true, .string ⟨#[]⟩, .string uid, .string tid, .string mid, .int .u8 3]) (by simp [results, Try.results22, go_sem]) rfl ⟨rfl, fin _ _ _⟩
  | false =>
    by_cases h1 : 1 ≤ r
    · by_cases h3 : r ≤ 3
      · have hd : dec false uid mid tid r = .agg #[.bool true, .string ⟨#[]⟩, .string uid, .string tid, .string mid, .int .u8 r] := by simp [dec, h1, h3]
        rw [hd]
        clear hd
        go_enter Try.func22, Try.ntmps22
        go_wp2
        go_region
        all_goals
          go_wp2
          exact bodyPost_ret (v := .agg #[.bool true, .string ⟨#[]⟩, .string uid, .string tid, .string mid, .int .u8 r]) (by simp [results, Try.results22, go_sem]) rfl ⟨rfl, fin _ _ _⟩
      · have hd : dec false uid mid tid r = .agg #[.bool false, .string ⟨#[110, 111, 116, 45, 97, 45, 109, 101, 109, 98, 101, 114]⟩, .string ⟨#[]⟩, .string ⟨#[]⟩, .string ⟨#[]⟩, .int .u8 0] := by simp [dec, h3]
        rw [hd]
        clear hd
        have d3 : decide (r ≤ 3) = false := decide_eq_false h3
        go_enter Try.func22, Try.ntmps22
        go_wp2
        go_region
        all_goals
          go_wp2
          exact bodyPost_ret (v := .agg #[.bool false, .string ⟨#[110, 111, 116, 45, 97, 45, 109, 101, 109, 98, 101, 114]⟩, .string ⟨#[]⟩, .string ⟨#[]⟩, .string ⟨#[]⟩, .int .u8 0]) (by simp [results, Try.results22, go_sem]) rfl ⟨rfl, fin _ _ _⟩
    · have hd : dec false uid mid tid r = .agg #[.bool false, .string ⟨#[110, 111, 116, 45, 97, 45, 109, 101, 109, 98, 101, 114]⟩, .string ⟨#[]⟩, .string ⟨#[]⟩, .string ⟨#[]⟩, .int .u8 0] := by simp [dec, h1]
      rw [hd]
      clear hd
      have d1 : decide (1 ≤ r) = false := decide_eq_false h1
      go_enter Try.func22, Try.ntmps22
      go_wp2
      go_region
      all_goals
        go_wp2
        exact bodyPost_ret (v := .agg #[.bool false, .string ⟨#[110, 111, 116, 45, 97, 45, 109, 101, 109, 98, 101, 114]⟩, .string ⟨#[]⟩, .string ⟨#[]⟩, .string ⟨#[]⟩, .int .u8 0]) (by simp [results, Try.results22, go_sem]) rfl ⟨rfl, fin _ _ _⟩

set_option maxHeartbeats 400000 in
theorem acting16 (p : Nat) (sa : Bool) (uid mid tid : ByteArray) (r : Int) (w : World) (c0 : w.cell? ⟨p, 0, none⟩ = some (.string uid)) (c1 : w.cell? ⟨p, 1, none⟩ = some (.bool sa)) :
    Calls Try.prog 16 #[.pointer (some ⟨p, 0, none⟩), .agg #[.string mid, .string tid, .int .u8 r]] w (Ret (dec sa uid mid tid r) w) := by
  have hp : p < w.heap.size := World.block_lt_of_cell? _ _ c0
  obtain ⟨x0, x1, x2, x3, x4, x5, hx⟩ : ∃ x0 x1 x2 x3 x4 x5, dec sa uid mid tid r = .agg #[.bool x0, .string x1, .string x2, .string x3, .string x4, .int .u8 x5] := by
    unfold dec
    split
    · exact ⟨_, _, _, _, _, _, rfl⟩
    · split
      · exact ⟨_, _, _, _, _, _, rfl⟩
      · exact ⟨_, _, _, _, _, _, rfl⟩
  have hb0 : ∀ o1 o2, Below w.heap.size w ((w.alloc o1).alloc o2) := fun o1 o2 => ((Below.refl _ _).alloc (Nat.le_refl _) _).alloc (by simp) _
  have K := fun wx h0 h1 => acting22 p sa uid mid tid r wx h0 h1
  rw [hx]
  simp only [hx] at K
  clear hx
  go_enter Try.func16, Try.ntmps16
  go_wp2_with fail
  refine (K _ (cell_later (hb0 _ _) c0) (cell_later (hb0 _ _) c1)).mono ?_
  rintro e w1 ⟨rfl, hb⟩
  have m0 : w1.cell? ⟨w.heap.size + 1, 0, none⟩ = some (.bool false) := cell_later hb (by simp)
  have m1 : w1.cell? ⟨w.heap.size + 1, 1, none⟩ = some (.string ⟨#[]⟩) := cell_later hb (by simp)
  have m2 : w1.cell? ⟨w.heap.size + 1, 2, none⟩ = some (.string ⟨#[]⟩) := cell_later hb (by simp)
  have m3 : w1.cell? ⟨w.heap.size + 1, 3, none⟩ = some (.string ⟨#[]⟩) := cell_later hb (by simp)
  have m4 : w1.cell? ⟨w.heap.size + 1, 4, none⟩ = some (.string ⟨#[]⟩) := cell_later hb (by simp)
  have m5 : w1.cell? ⟨w.heap.size + 1, 5, none⟩ = some (.int .u8 0) := cell_later hb (by simp)
  have z0 : ∀ o, w1.frozen? ⟨w.heap.size + 1, o, none⟩ = false := fun o => (hb.frozen (p := ⟨w.heap.size + 1, o, none⟩) (by simp)).trans (by simp)
  have B := below_on (hb0 _ _) hb
  clear hb hb0 K c0 c1
  go_wp2
  exact bodyPost_ret (v := .agg #[.bool x0, .string x1, .string x2, .string x3, .string x4, .int .u8 x5]) (by simp [results, Try.results16, go_sem, m0, m1, m2, m3, m4, m5]) rfl ⟨rfl, (((((B.setCell (by simp) _).setCell (by simp) _).setCell (by simp) _).setCell (by simp) _).setCell (by simp) _).setCell (by simp) _⟩
end Go.Proofs.Qxb6001220a
