import Derived.Test.Qxb6001220aBase
namespace Go.Proofs.Qxb6001220a
open Go.RowKit

set_option maxHeartbeats 2000000 in
theorem walk6 (a0 a1 a2 : ByteArray) (r : Int) (w0 : a0.size ≤ maxLen) (w1 : a1.size ≤ maxLen) (w2 : a2.size ≤ maxLen) (w : World) :
    Calls Try.prog 6 #[.string a0, .string a1, .string a2, .int .u8 r] w (Ret (.bool true) w) := by
  have B15 := bytes15 a0 a1 a2 r w0 w1 w2
  unfold maxLen at w0 w1 w2
  by_cases hs : a0.size ≤ 262144 ∧ a1.size ≤ 262144 ∧ a2.size ≤ 262144
  · obtain ⟨s0, s1, s2⟩ := hs
    obtain ⟨x0, x1, x2, x3, x4, x5, hx, hok⟩ : ∃ x0 x1 x2 x3 x4 x5, dec false a0 a1 a2 r = .agg #[.bool x0, .string x1, .string x2, .string x3, .string x4, .int .u8 x5] ∧ Hid (x0 = true → x2 = a0 ∧ x3 = a2 ∧ x4 = a1 ∧ x5 ≤ 3) := by
      unfold dec
      rw [if_neg (by simp)]
      split
      · rename_i h
        exact ⟨_, _, _, _, _, _, rfl, fun _ => ⟨rfl, rfl, rfl, h.2⟩⟩
      · exact ⟨_, _, _, _, _, _, rfl, fun h => by cases h⟩
    have hT : dec true a0 a1 a2 r = .agg #[.bool true, .string ⟨#[]⟩, .string a0, .string a2, .string a1, .int .u8 3] := rfl
    have K1 := fun p wx h0 h1 => acting16 p false a0 a1 a2 r wx h0 h1
    have K2 := fun p wx h0 h1 => acting16 p true a0 a1 a2 r wx h0 h1
    simp only [hx] at K1
    simp only [hT] at K2
    clear hx hT
    go_enter Try.func6, Try.ntmps6
    go_wp2_with fail
    refine (B15 _).mono ?_
    rintro e w' ⟨he, hw⟩
    rw [hw]
    clear hw B15
    rcases he with rfl | rfl
    · go_wp2_with fail
      have bx : ∀ o1 o2, Below w.heap.size w ((w.alloc o1).alloc o2) := fun o1 o2 => ((Below.refl _ _).alloc (Nat.le_refl _) _).alloc (by simp) _
      refine (K1 _ _ (by simp) (by simp)).mono ?_
      rintro e v1 ⟨rfl, hb⟩
      have m0 : v1.cell? ⟨w.heap.size, 0, none⟩ = some (.string a1) := cell_later hb (by simp)
      have m1 : v1.cell? ⟨w.heap.size, 1, none⟩ = some (.string a2) := cell_later hb (by simp)
      have m2 : v1.cell? ⟨w.heap.size, 2, none⟩ = some (.int .u8 r) := cell_later hb (by simp)
      have hsz : w.heap.size + 1 < v1.heap.size := by have := hb.size; simp at this; omega
      have hs0 : w.heap.size < v1.heap.size := by omega
      have hs1 : w.heap.size < v1.heap.size + 1 := by omega
      have B1 := below_on (bx _ _) hb
      clear hb bx K1
      go_wp2_with fail
      have bx : ∀ o1 o2, Below v1.heap.size v1 ((v1.alloc o1).alloc o2) := fun o1 o2 => ((Below.refl _ _).alloc (Nat.le_refl _) _).alloc (by simp) _
      refine (K2 _ _ (by simp) (by simp)).mono ?_
      rintro e v2 ⟨rfl, hb⟩
      have n0 : v2.cell? ⟨v1.heap.size, 0, none⟩ = some (.bool x0) := cell_later hb (by simp)
      have n2 : v2.cell? ⟨v1.heap.size, 2, none⟩ = some (.string x2) := cell_later hb (by simp)
      have n3 : v2.cell? ⟨v1.heap.size, 3, none⟩ = some (.string x3) := cell_later hb (by simp)
      have n4 : v2.cell? ⟨v1.heap.size, 4, none⟩ = some (.string x4) := cell_later hb (by simp)
      have n5 : v2.cell? ⟨v1.heap.size, 5, none⟩ = some (.int .u8 x5) := cell_later hb (by simp)
      have hv : v1.heap.size < v2.heap.size := by have := hb.size; simp at this; omega
      have B2 := below_on B1 (below_on (bx _ _) hb)
      have B3 : ∀ o, Below w.heap.size w (v2.alloc o) := fun o => B2.alloc B2.size o
      clear hb bx K2 m0 m1 m2 B1
      cases x0 with
      | false =>
        clear hok n2 n3 n4 n5
        go_wp2
        go_ret
        exact ⟨rfl, B3 _⟩
      | true =>
        obtain ⟨rfl, rfl, rfl, h5⟩ := hok.out rfl
        clear hok
        go_wp2
        go_ret
        exact ⟨rfl, B3 _⟩
    · go_wp2
      go_ret
      exact ⟨rfl, Below.refl _ _⟩
  · rcases (show 262144 < a0.size ∨ (a0.size ≤ 262144 ∧ 262144 < a1.size) ∨ (a0.size ≤ 262144 ∧ a1.size ≤ 262144 ∧ 262144 < a2.size) by omega) with t | ⟨t1, t⟩ | ⟨t1, t2, t⟩
    all_goals
      clear hs
      go_enter Try.func6, Try.ntmps6
      go_wp2_with fail
      refine (B15 _).mono ?_
      rintro e w' ⟨he, hw⟩
      rw [hw]
      clear hw B15
      rcases he with rfl | rfl
      all_goals
        go_wp2
        go_ret
        exact ⟨rfl, Below.refl _ _⟩
end Go.Proofs.Qxb6001220a
