import Derived.Test.Qxb6001211aCode
namespace Go.Proofs.Qxb6001211a
open Go.RowKit

set_option maxHeartbeats 400000 in
/-- length 1, place 0 -/
theorem fit10 (x : Int) (r : Bool) (w : World) (h : (r = true ∧ x ≤ 127) ∨ (r = false ∧ ¬ x ≤ 127)) :
    Calls Try.prog 11 #[.int .i64 1, .int .i64 0, .int .u8 x] w (Same (.bool r) w) := by
  rcases h with ⟨rfl, h⟩ | ⟨rfl, h⟩
  all_goals
    go_enter Try.func11, Try.ntmps11
    go_wp2
    go_ret
    exact ⟨rfl, rfl⟩

set_option maxHeartbeats 400000 in
/-- a lead byte: lengths 2 and 4 at place 0, length 4 at place 2 -/
theorem fitHi (L p x : Int) (r : Bool) (w : World) (hp : (L = 2 ∧ p = 0) ∨ (L = 4 ∧ p = 0) ∨ (L = 4 ∧ p = 2)) (h : (r = true ∧ 129 ≤ x ∧ x ≤ 254) ∨ (r = false ∧ 129 ≤ x ∧ ¬ x ≤ 254) ∨ (r = false ∧ ¬ 129 ≤ x)) :
    Calls Try.prog 11 #[.int .i64 L, .int .i64 p, .int .u8 x] w (Same (.bool r) w) := by
  rcases hp with ⟨rfl, rfl⟩ | ⟨rfl, rfl⟩ | ⟨rfl, rfl⟩ <;> rcases h with ⟨rfl, h, h'⟩ | ⟨rfl, h, h'⟩ | ⟨rfl, h⟩
  all_goals
    go_enter Try.func11, Try.ntmps11
    go_wp2
    go_ret
    exact ⟨rfl, rfl⟩

set_option maxHeartbeats 400000 in
/-- a digit: length 4 at places 1 and 3 -/
theorem fitLo (p x : Int) (r : Bool) (w : World) (hp : p = 1 ∨ p = 3) (h : (r = true ∧ 48 ≤ x ∧ x ≤ 57) ∨ (r = false ∧ 48 ≤ x ∧ ¬ x ≤ 57) ∨ (r = false ∧ ¬ 48 ≤ x)) :
    Calls Try.prog 11 #[.int .i64 4, .int .i64 p, .int .u8 x] w (Same (.bool r) w) := by
  rcases hp with rfl | rfl <;> rcases h with ⟨rfl, h, h'⟩ | ⟨rfl, h, h'⟩ | ⟨rfl, h⟩
  all_goals
    go_enter Try.func11, Try.ntmps11
    go_wp2
    go_ret
    exact ⟨rfl, rfl⟩

set_option maxHeartbeats 400000 in
/-- the second byte of two -/
theorem fit21 (x : Int) (r : Bool) (w : World) (h : (r = true ∧ 64 ≤ x ∧ x ≤ 126) ∨ (r = true ∧ 64 ≤ x ∧ ¬ x ≤ 126 ∧ 128 ≤ x ∧ x ≤ 254) ∨ (r = false ∧ ¬ 64 ≤ x ∧ ¬ 128 ≤ x) ∨ (r = false ∧ 64 ≤ x ∧ ¬ x ≤ 126 ∧ ¬ 128 ≤ x) ∨ (r = false ∧ 64 ≤ x ∧ ¬ x ≤ 126 ∧ 128 ≤ x ∧ ¬ x ≤ 254)) :
    Calls Try.prog 11 #[.int .i64 2, .int .i64 1, .int .u8 x] w (Same (.bool r) w) := by
  rcases h with ⟨rfl, h1, h2⟩ | ⟨rfl, h1, h2, h3, h4⟩ | ⟨rfl, h1, h2⟩ | ⟨rfl, h1, h2, h3⟩ | ⟨rfl, h1, h2, h3, h4⟩
  all_goals
    go_enter Try.func11, Try.ntmps11
    go_wp2
    go_ret
    exact ⟨rfl, rfl⟩

/-- At the head of a round: which lengths are still possible. -/
def GbSt (f : Nat → Int) (n : Nat) (a1 a2 a4 i : Value) : Prop :=
  (a1 = .bool true ∧ a2 = .bool true ∧ a4 = .bool true ∧ i = .int .i64 0) ∨
  (a1 = .bool false ∧ a2 = .bool true ∧ a4 = .bool true ∧ i = .int .i64 1 ∧ 129 ≤ f 0 ∧ f 0 ≤ 254) ∨
  (a1 = .bool false ∧ a2 = .bool false ∧ a4 = .bool true ∧ i = .int .i64 2 ∧ 129 ≤ f 0 ∧ f 0 ≤ 254 ∧ 48 ≤ f 1 ∧ f 1 ≤ 57 ∧ 2 ≤ n) ∨
  (a1 = .bool false ∧ a2 = .bool false ∧ a4 = .bool true ∧ i = .int .i64 3 ∧ 129 ≤ f 0 ∧ f 0 ≤ 254 ∧ 48 ≤ f 1 ∧ f 1 ≤ 57 ∧ 129 ≤ f 2 ∧ f 2 ≤ 254 ∧ 3 ≤ n)

set_option maxHeartbeats 1000000 in
theorem model7 (b o n c : Nat) (f : Nat → Int) (w : World) (hc : ∀ i, i < n → w.cell? ⟨b, o + i, none⟩ = some (.int .u8 (f i))) (hn : 1 ≤ n) (l : n ≤ 1048576) (hf : ∀ i, i < n → 0 ≤ f i ∧ f i ≤ 255) :
    Calls Try.prog 7 #[.slice (some ⟨b, o, none⟩) n c] w (Same (.int .i64 (codeLen f n)) w) := by
  have HW : Hid _ := codeLen_ways f n
  obtain ⟨v, hv⟩ : ∃ v, codeLen f n = v := ⟨_, rfl⟩
  rw [hv]
  rw [hv] at HW
  clear hv
  go_enter Try.func7, Try.ntmps7
  go_wp2
  go_loop [3, 4, 5, 6] (fun a1 a2 a4 i => GbSt f n a1 a2 a4 i) (fun _ _ _ i => 4 - (intOf i).toNat)
  case atStart => exact .inl ⟨rfl, rfl, rfl, rfl⟩
  case round =>
    have hw := HW.out
    clear HW
    rcases hrel with ⟨rfl, rfl, rfl, rfl⟩ | ⟨rfl, rfl, rfl, rfl, p0, p1⟩ | ⟨rfl, rfl, rfl, rfl, p0, p1, p2, p3, p4⟩ | ⟨rfl, rfl, rfl, rfl, p0, p1, p2, p3, p4, p5, p6⟩
    · have c0 : w.cell? ⟨b, o, none⟩ = some (.int .u8 (f 0)) := hc 0 (by omega)
      have f0 := hf 0 (by omega)
      rcases (show (f 0 ≤ 127) ∨ (¬ f 0 ≤ 127 ∧ ¬ 129 ≤ f 0) ∨ (¬ f 0 ≤ 127 ∧ 129 ≤ f 0 ∧ ¬ f 0 ≤ 254) ∨ (¬ f 0 ≤ 127 ∧ 129 ≤ f 0 ∧ f 0 ≤ 254) by omega) with t | t | t | t
      · clear hc hf
        have k0 := fit10 (f 0) true w (.inl ⟨rfl, by omega⟩)
        have k1 := fitHi 2 0 (f 0) false w (by omega) (.inr (.inr ⟨rfl, by omega⟩))
        have k2 := fitHi 4 0 (f 0) false w (by omega) (.inr (.inr ⟨rfl, by omega⟩))
        obtain rfl : v = 1 := by omega
        clear hw
        go_wp2_with fail
        refine k0.mono ?_
        rintro e w' ⟨rfl, hw⟩
        rw [hw]
        clear hw k0
        go_wp2_with fail
        refine k1.mono ?_
        rintro e w' ⟨rfl, hw⟩
        rw [hw]
        clear hw k1
        go_wp2_with fail
        refine k2.mono ?_
        rintro e w' ⟨rfl, hw⟩
        rw [hw]
        clear hw k2
        go_wp2
        go_ret
        exact ⟨rfl, rfl⟩
      · clear hc hf
        have k0 := fit10 (f 0) false w (.inr ⟨rfl, by omega⟩)
        have k1 := fitHi 2 0 (f 0) false w (by omega) (.inr (.inr ⟨rfl, by omega⟩))
        have k2 := fitHi 4 0 (f 0) false w (by omega) (.inr (.inr ⟨rfl, by omega⟩))
        obtain rfl : v = -1 := by omega
        clear hw
        go_wp2_with fail
        refine k0.mono ?_
        rintro e w' ⟨rfl, hw⟩
        rw [hw]
        clear hw k0
        go_wp2_with fail
        refine k1.mono ?_
        rintro e w' ⟨rfl, hw⟩
        rw [hw]
        clear hw k1
        go_wp2_with fail
        refine k2.mono ?_
        rintro e w' ⟨rfl, hw⟩
        rw [hw]
        clear hw k2
        go_wp2
        go_ret
        exact ⟨rfl, rfl⟩
      · clear hc hf
        have k0 := fit10 (f 0) false w (.inr ⟨rfl, by omega⟩)
        have k1 := fitHi 2 0 (f 0) false w (by omega) (.inr (.inl ⟨rfl, by omega, by omega⟩))
        have k2 := fitHi 4 0 (f 0) false w (by omega) (.inr (.inl ⟨rfl, by omega, by omega⟩))
        obtain rfl : v = -1 := by omega
        clear hw
        go_wp2_with fail
        refine k0.mono ?_
        rintro e w' ⟨rfl, hw⟩
        rw [hw]
        clear hw k0
        go_wp2_with fail
        refine k1.mono ?_
        rintro e w' ⟨rfl, hw⟩
        rw [hw]
        clear hw k1
        go_wp2_with fail
        refine k2.mono ?_
        rintro e w' ⟨rfl, hw⟩
        rw [hw]
        clear hw k2
        go_wp2
        go_ret
        exact ⟨rfl, rfl⟩
      · clear hc hf
        have k0 := fit10 (f 0) false w (.inr ⟨rfl, by omega⟩)
        have k1 := fitHi 2 0 (f 0) true w (by omega) (.inl ⟨rfl, by omega, by omega⟩)
        have k2 := fitHi 4 0 (f 0) true w (by omega) (.inl ⟨rfl, by omega, by omega⟩)
        have HW : Hid _ := hw
        clear hw
        go_wp2_with fail
        refine k0.mono ?_
        rintro e w' ⟨rfl, hw⟩
        rw [hw]
        clear hw k0
        go_wp2_with fail
        refine k1.mono ?_
        rintro e w' ⟨rfl, hw⟩
        rw [hw]
        clear hw k1
        go_wp2_with fail
        refine k2.mono ?_
        rintro e w' ⟨rfl, hw⟩
        rw [hw]
        clear hw k2
        go_wp2
        go_round
        case rel => exact .inr (.inl ⟨rfl, rfl, rfl, rfl, t.2.1, t.2.2⟩)
        case measure => simp [intOf]
    · by_cases hn2 : n < 2
      · clear hc hf
        obtain rfl : v = 0 := by omega
        clear hw
        go_wp2
        go_ret
        exact ⟨rfl, rfl⟩
      · have c1 : w.cell? ⟨b, o + 1, none⟩ = some (.int .u8 (f 1)) := hc 1 (by omega)
        have f1 := hf 1 (by omega)
        have i1 : (1 : Int) < n := by omega
        clear hc hf
        rcases (show (64 ≤ f 1 ∧ f 1 ≤ 126) ∨ (64 ≤ f 1 ∧ ¬ f 1 ≤ 126 ∧ 128 ≤ f 1 ∧ f 1 ≤ 254) ∨ (f 1 < 48) ∨ (57 < f 1 ∧ f 1 < 64) ∨ (f 1 = 127) ∨ (f 1 = 255) ∨ (48 ≤ f 1 ∧ f 1 ≤ 57) by omega) with t | t | t | t | t | t | t
        · have k0 := fit21 (f 1) true w (.inl ⟨rfl, by omega, by omega⟩)
          have k1 := fitLo 1 (f 1) false w (by omega) (.inr (.inl ⟨rfl, by omega, by omega⟩))
          obtain rfl : v = 2 := by omega
          clear hw
          go_wp2_with fail
          refine k0.mono ?_
          rintro e w' ⟨rfl, hw⟩
          rw [hw]
          clear hw k0
          go_wp2_with fail
          refine k1.mono ?_
          rintro e w' ⟨rfl, hw⟩
          rw [hw]
          clear hw k1
          go_wp2
          go_ret
          exact ⟨rfl, rfl⟩
        · have k0 := fit21 (f 1) true w (.inr (.inl ⟨rfl, by omega, by omega, by omega, by omega⟩))
          have k1 := fitLo 1 (f 1) false w (by omega) (.inr (.inl ⟨rfl, by omega, by omega⟩))
          obtain rfl : v = 2 := by omega
          clear hw
          go_wp2_with fail
          refine k0.mono ?_
          rintro e w' ⟨rfl, hw⟩
          rw [hw]
          clear hw k0
          go_wp2_with fail
          refine k1.mono ?_
          rintro e w' ⟨rfl, hw⟩
          rw [hw]
          clear hw k1
          go_wp2
          go_ret
          exact ⟨rfl, rfl⟩
        · have k0 := fit21 (f 1) false w (.inr (.inr (.inl ⟨rfl, by omega, by omega⟩)))
          have k1 := fitLo 1 (f 1) false w (by omega) (.inr (.inr ⟨rfl, by omega⟩))
          obtain rfl : v = -2 := by omega
          clear hw
          go_wp2_with fail
          refine k0.mono ?_
          rintro e w' ⟨rfl, hw⟩
          rw [hw]
          clear hw k0
          go_wp2_with fail
          refine k1.mono ?_
          rintro e w' ⟨rfl, hw⟩
          rw [hw]
          clear hw k1
          go_wp2
          go_ret
          exact ⟨rfl, rfl⟩
        · have k0 := fit21 (f 1) false w (.inr (.inr (.inl ⟨rfl, by omega, by omega⟩)))
          have k1 := fitLo 1 (f 1) false w (by omega) (.inr (.inl ⟨rfl, by omega, by omega⟩))
          obtain rfl : v = -2 := by omega
          clear hw
          go_wp2_with fail
          refine k0.mono ?_
          rintro e w' ⟨rfl, hw⟩
          rw [hw]
          clear hw k0
          go_wp2_with fail
          refine k1.mono ?_
          rintro e w' ⟨rfl, hw⟩
          rw [hw]
          clear hw k1
          go_wp2
          go_ret
          exact ⟨rfl, rfl⟩
        · have k0 := fit21 (f 1) false w (.inr (.inr (.inr (.inl ⟨rfl, by omega, by omega, by omega⟩))))
          have k1 := fitLo 1 (f 1) false w (by omega) (.inr (.inl ⟨rfl, by omega, by omega⟩))
          obtain rfl : v = -2 := by omega
          clear t
          clear hw
          go_wp2_with fail
          refine k0.mono ?_
          rintro e w' ⟨rfl, hw⟩
          rw [hw]
          clear hw k0
          go_wp2_with fail
          refine k1.mono ?_
          rintro e w' ⟨rfl, hw⟩
          rw [hw]
          clear hw k1
          go_wp2
          go_ret
          exact ⟨rfl, rfl⟩
        · have k0 := fit21 (f 1) false w (.inr (.inr (.inr (.inr ⟨rfl, by omega, by omega, by omega, by omega⟩))))
          have k1 := fitLo 1 (f 1) false w (by omega) (.inr (.inl ⟨rfl, by omega, by omega⟩))
          obtain rfl : v = -2 := by omega
          clear t
          clear hw
          go_wp2_with fail
          refine k0.mono ?_
          rintro e w' ⟨rfl, hw⟩
          rw [hw]
          clear hw k0
          go_wp2_with fail
          refine k1.mono ?_
          rintro e w' ⟨rfl, hw⟩
          rw [hw]
          clear hw k1
          go_wp2
          go_ret
          exact ⟨rfl, rfl⟩
        · have k0 := fit21 (f 1) false w (.inr (.inr (.inl ⟨rfl, by omega, by omega⟩)))
          have k1 := fitLo 1 (f 1) true w (by omega) (.inl ⟨rfl, by omega, by omega⟩)
          have HW : Hid _ := hw
          clear hw
          go_wp2_with fail
          refine k0.mono ?_
          rintro e w' ⟨rfl, hw⟩
          rw [hw]
          clear hw k0
          go_wp2_with fail
          refine k1.mono ?_
          rintro e w' ⟨rfl, hw⟩
          rw [hw]
          clear hw k1
          go_wp2
          go_round
          case rel => exact .inr (.inr (.inl ⟨rfl, rfl, rfl, rfl, p0, p1, t.1, t.2, by omega⟩))
          case measure => simp [intOf]
    · by_cases hn3 : n < 3
      · clear hc hf
        obtain rfl : v = 0 := by omega
        clear hw
        go_wp2
        go_ret
        exact ⟨rfl, rfl⟩
      · have c2 : w.cell? ⟨b, o + 2, none⟩ = some (.int .u8 (f 2)) := hc 2 (by omega)
        have f2 := hf 2 (by omega)
        have i2 : (2 : Int) < n := by omega
        clear hc hf
        rcases (show (¬ 129 ≤ f 2) ∨ (129 ≤ f 2 ∧ ¬ f 2 ≤ 254) ∨ (129 ≤ f 2 ∧ f 2 ≤ 254) by omega) with t | t | t
        · have k0 := fitHi 4 2 (f 2) false w (by omega) (.inr (.inr ⟨rfl, by omega⟩))
          obtain rfl : v = -3 := by omega
          clear hw
          go_wp2_with fail
          refine k0.mono ?_
          rintro e w' ⟨rfl, hw⟩
          rw [hw]
          clear hw k0
          go_wp2
          go_ret
          exact ⟨rfl, rfl⟩
        · have k0 := fitHi 4 2 (f 2) false w (by omega) (.inr (.inl ⟨rfl, by omega, by omega⟩))
          obtain rfl : v = -3 := by omega
          clear hw
          go_wp2_with fail
          refine k0.mono ?_
          rintro e w' ⟨rfl, hw⟩
          rw [hw]
          clear hw k0
          go_wp2
          go_ret
          exact ⟨rfl, rfl⟩
        · have k0 := fitHi 4 2 (f 2) true w (by omega) (.inl ⟨rfl, by omega, by omega⟩)
          have HW : Hid _ := hw
          clear hw
          go_wp2_with fail
          refine k0.mono ?_
          rintro e w' ⟨rfl, hw⟩
          rw [hw]
          clear hw k0
          go_wp2
          go_round
          case rel => exact .inr (.inr (.inr ⟨rfl, rfl, rfl, rfl, p0, p1, p2, p3, t.1, t.2, by omega⟩))
          case measure => simp [intOf]
    · by_cases hn4 : n < 4
      · clear hc hf
        obtain rfl : v = 0 := by omega
        clear hw
        go_wp2
        go_ret
        exact ⟨rfl, rfl⟩
      · have c3 : w.cell? ⟨b, o + 3, none⟩ = some (.int .u8 (f 3)) := hc 3 (by omega)
        have f3 := hf 3 (by omega)
        have i3 : (3 : Int) < n := by omega
        clear hc hf
        rcases (show (¬ 48 ≤ f 3) ∨ (48 ≤ f 3 ∧ ¬ f 3 ≤ 57) ∨ (48 ≤ f 3 ∧ f 3 ≤ 57) by omega) with t | t | t
        · have k0 := fitLo 3 (f 3) false w (by omega) (.inr (.inr ⟨rfl, by omega⟩))
          obtain rfl : v = -4 := by omega
          clear hw
          go_wp2_with fail
          refine k0.mono ?_
          rintro e w' ⟨rfl, hw⟩
          rw [hw]
          clear hw k0
          go_wp2
          go_ret
          exact ⟨rfl, rfl⟩
        · have k0 := fitLo 3 (f 3) false w (by omega) (.inr (.inl ⟨rfl, by omega, by omega⟩))
          obtain rfl : v = -4 := by omega
          clear hw
          go_wp2_with fail
          refine k0.mono ?_
          rintro e w' ⟨rfl, hw⟩
          rw [hw]
          clear hw k0
          go_wp2
          go_ret
          exact ⟨rfl, rfl⟩
        · have k0 := fitLo 3 (f 3) true w (by omega) (.inl ⟨rfl, by omega, by omega⟩)
          obtain rfl : v = 4 := by omega
          clear hw
          go_wp2_with fail
          refine k0.mono ?_
          rintro e w' ⟨rfl, hw⟩
          rw [hw]
          clear hw k0
          go_wp2
          go_ret
          exact ⟨rfl, rfl⟩
end Go.Proofs.Qxb6001211a
