import Derived.Test.Qxb6001211aBase
namespace Go.Proofs.Qxb6001211a
open Go.RowKit

theorem ret_i64 {a b : Int} (h : a = b) : Ending.returned (.int .i64 a) = .returned (.int .i64 b) := by rw [h]

/-- It hands back v; the world stands. -/
def Same (v : Value) (w : World) (e : Ending) (w' : World) : Prop := e = .returned v ∧ w' = w

set_option maxHeartbeats 1000000 in
theorem code10 (b o n c : Nat) (f : Nat → Int) (w : World) (hc : ∀ i, i < n → w.cell? ⟨b, o + i, none⟩ = some (.int .u8 (f i))) (hn : 1 ≤ n) (l : n ≤ 1048576) :
    Calls Try.prog 10 #[.slice (some ⟨b, o, none⟩) n c] w (Same (.int .i64 (codeLen f n)) w) := by
  have c0 : w.cell? ⟨b, o, none⟩ = some (.int .u8 (f 0)) := hc 0 (by omega)
  have c1 : 1 < n → w.cell? ⟨b, o + 1, none⟩ = some (.int .u8 (f 1)) := hc 1
  have c2 : 2 < n → w.cell? ⟨b, o + 2, none⟩ = some (.int .u8 (f 2)) := hc 2
  have c3 : 3 < n → w.cell? ⟨b, o + 3, none⟩ = some (.int .u8 (f 3)) := hc 3
  clear hc
  have HW := codeLen_ways f n
  have X : ∃ v, codeLen f n = v := ⟨_, rfl⟩
  obtain ⟨v, hv⟩ := X
  rw [hv]
  rw [hv] at HW
  clear hv
  rcases HW with a | a | a | a | a | a | a | a | a | a
  · obtain ⟨h0, rfl⟩ := a
    go_enter Try.func10, Try.ntmps10
    go_wp2
    go_ret
    exact ⟨rfl, rfl⟩
  · obtain ⟨h0, h1, rfl⟩ := a
    rcases h1 with h1 | h1
    · have h1' : (f 0 == 128) = true := by simpa using h1
      clear h1
      go_enter Try.func10, Try.ntmps10
      go_wp2
      go_ret
      exact ⟨rfl, rfl⟩
    · have h1' : (f 0 == 255) = true := by simpa using h1
      have h1'' : (f 0 == 128) = false := by simp; omega
      clear h1
      go_enter Try.func10, Try.ntmps10
      go_wp2
      go_ret
      exact ⟨rfl, rfl⟩
  · obtain ⟨h0, h1, h2, rfl⟩ := a
    have p0 : (f 0 == 128) = false := by simp; omega
    have p1 : (f 0 == 255) = false := by simp; omega
    clear h1
    go_enter Try.func10, Try.ntmps10
    go_wp2
    go_ret
    exact ⟨rfl, rfl⟩
  · obtain ⟨h0, h1, h2, ⟨h3, h4, h5⟩, rfl⟩ := a
    have p0 : (f 0 == 128) = false := by simp; omega
    have p1 : (f 0 == 255) = false := by simp; omega
    clear h1
    replace c1 := c1 (by omega)
    have p2 : (f 1 != 127) = true := by simpa using h5
    clear h5
    go_enter Try.func10, Try.ntmps10
    go_wp2
    go_ret
    exact ⟨rfl, rfl⟩
  · obtain ⟨h0, h1, h2, h3, h4, rfl⟩ := a
    have p0 : (f 0 == 128) = false := by simp; omega
    have p1 : (f 0 == 255) = false := by simp; omega
    clear h1
    replace c1 := c1 (by omega)
    rcases (show f 1 < 48 ∨ (57 < f 1 ∧ f 1 < 64) ∨ 254 < f 1 ∨ (f 1 = 127 ∧ 57 < f 1) by omega) with t | ⟨t, t'⟩ | t | ⟨t, t'⟩
    · clear h3 h4
      go_enter Try.func10, Try.ntmps10
      go_wp2
      go_ret
      exact ⟨rfl, rfl⟩
    · clear h3 h4
      go_enter Try.func10, Try.ntmps10
      go_wp2
      go_ret
      exact ⟨rfl, rfl⟩
    · clear h3 h4
      go_enter Try.func10, Try.ntmps10
      go_wp2
      go_ret
      exact ⟨rfl, rfl⟩
    · have p2 : (f 1 != 127) = false := by simpa using t
      have p3 : 64 ≤ f 1 := by omega
      have p4 : f 1 ≤ 254 := by omega
      clear t h3 h4
      go_enter Try.func10, Try.ntmps10
      go_wp2
      go_ret
      exact ⟨rfl, rfl⟩
  · obtain ⟨h0, h1, h2, h3, h4, h5, rfl⟩ := a
    have p0 : (f 0 == 128) = false := by simp; omega
    have p1 : (f 0 == 255) = false := by simp; omega
    clear h1
    replace c1 := c1 (by omega)
    have p2 : f 1 < 64 := by omega
    have p3 : 48 ≤ f 1 := by omega
    have p4 : f 1 ≤ 57 := by omega
    clear h3 h4
    go_enter Try.func10, Try.ntmps10
    go_wp2
    go_ret
    exact ⟨rfl, rfl⟩
  · obtain ⟨h0, h1, h2, h3, h4, h5, h6, rfl⟩ := a
    have p0 : (f 0 == 128) = false := by simp; omega
    have p1 : (f 0 == 255) = false := by simp; omega
    clear h1
    replace c1 := c1 (by omega)
    have p2 : f 1 < 64 := by omega
    have p3 : 48 ≤ f 1 := by omega
    have p4 : f 1 ≤ 57 := by omega
    clear h3 h4
    replace c2 := c2 (by omega)
    rcases h6 with h6 | h6
    · clear c3
      go_enter Try.func10, Try.ntmps10
      go_wp2
      go_ret
      exact ⟨rfl, rfl⟩
    · have p5 : (f 2 == 255) = true := by simpa using h6
      have p6 : ¬ f 2 < 129 := by omega
      clear h6
      go_enter Try.func10, Try.ntmps10
      go_wp2
      go_ret
      exact ⟨rfl, rfl⟩
  · obtain ⟨h0, h1, h2, h3, h4, h5, h6, h7, rfl⟩ := a
    have p0 : (f 0 == 128) = false := by simp; omega
    have p1 : (f 0 == 255) = false := by simp; omega
    clear h1
    replace c1 := c1 (by omega)
    have p2 : f 1 < 64 := by omega
    have p3 : 48 ≤ f 1 := by omega
    have p4 : f 1 ≤ 57 := by omega
    clear h3 h4
    replace c2 := c2 (by omega)
    have p5 : (f 2 == 255) = false := by simp; omega
    have p6 : ¬ f 2 < 129 := by omega
    clear h6
    go_enter Try.func10, Try.ntmps10
    go_wp2
    go_ret
    exact ⟨rfl, rfl⟩
  · obtain ⟨h0, h1, h2, h3, h4, h5, h6, h7, h8, rfl⟩ := a
    have p0 : (f 0 == 128) = false := by simp; omega
    have p1 : (f 0 == 255) = false := by simp; omega
    clear h1
    replace c1 := c1 (by omega)
    have p2 : f 1 < 64 := by omega
    have p3 : 48 ≤ f 1 := by omega
    have p4 : f 1 ≤ 57 := by omega
    clear h3 h4
    replace c2 := c2 (by omega)
    have p5 : (f 2 == 255) = false := by simp; omega
    have p6 : ¬ f 2 < 129 := by omega
    clear h6
    replace c3 := c3 (by omega)
    rcases (show f 3 < 48 ∨ (¬ f 3 < 48 ∧ 57 < f 3) by omega) with t | ⟨t, t'⟩
    · clear h8
      go_enter Try.func10, Try.ntmps10
      go_wp2
      go_ret
      exact ⟨rfl, rfl⟩
    · clear h8
      go_enter Try.func10, Try.ntmps10
      go_wp2
      go_ret
      exact ⟨rfl, rfl⟩
  · obtain ⟨h0, h1, h2, h3, h4, h5, h6, h7, h8, rfl⟩ := a
    have p0 : (f 0 == 128) = false := by simp; omega
    have p1 : (f 0 == 255) = false := by simp; omega
    clear h1
    replace c1 := c1 (by omega)
    have p2 : f 1 < 64 := by omega
    have p3 : 48 ≤ f 1 := by omega
    have p4 : f 1 ≤ 57 := by omega
    clear h3 h4
    replace c2 := c2 (by omega)
    have p5 : (f 2 == 255) = false := by simp; omega
    have p6 : ¬ f 2 < 129 := by omega
    clear h6
    replace c3 := c3 (by omega)
    have t : ¬ f 3 < 48 := by omega
    have t' : ¬ 57 < f 3 := by omega
    clear h8
    go_enter Try.func10, Try.ntmps10
    go_wp2
    go_ret
    exact ⟨rfl, rfl⟩

set_option maxHeartbeats 400000 in
theorem code6 (b o n c : Nat) (f : Nat → Int) (w : World) (hc : ∀ i, i < n → w.cell? ⟨b, o + i, none⟩ = some (.int .u8 (f i))) (hn : 1 ≤ n) (l : n ≤ 1048576) :
    Calls Try.prog 6 #[.slice (some ⟨b, o, none⟩) n c] w (Same (.int .i64 (codeLen f n)) w) := by
  go_enter Try.func6, Try.ntmps6
  go_wp2_with (go_at_call 10; refine (code10 b o n c f _ hc hn l).mono ?_; rintro e w' ⟨rfl, rfl⟩)
  go_ret
  exact ⟨rfl, rfl⟩

set_option maxHeartbeats 400000 in
theorem abs9 (x : Int) (k : Nat) (w : World) (h : x = k ∨ x = -(k : Int)) (hk : k ≤ 1000) :
    Calls Try.prog 9 #[.int .i64 x] w (Same (.int .i64 (k : Int)) w) := by
  by_cases h0 : x < 0
  · have hx : -x = k := by omega
    have h1 : -1000 ≤ x := by omega
    clear h
    go_enter Try.func9, Try.ntmps9
    go_wp2
    go_ret
    exact ⟨rfl, rfl⟩
  · have hx : x = k := by omega
    have HX : Hid (x = k) := hx
    clear h hx
    go_enter Try.func9, Try.ntmps9
    go_wp2
    go_ret
    exact ⟨ret_i64 HX.out, rfl⟩

set_option maxHeartbeats 400000 in
theorem bytes8 (a : Option Addr) (n c : Nat) (a' : Option Addr) (n' c' : Nat) (w : World) :
    Calls Try.prog 8 #[.slice a n c, .slice a' n' c'] w fun e w' => (e = .returned (.bool true) ∨ e = .returned (.bool false)) ∧ w' = w := by
  go_enter Try.func8, Try.ntmps8
  go_wp2
  all_goals go_ret
  all_goals first
    | exact ⟨.inl rfl, rfl⟩
    | exact ⟨.inr rfl, rfl⟩

set_option maxHeartbeats 400000 in
theorem bytes5 (a : Option Addr) (n c : Nat) (w : World) :
    Calls Try.prog 5 #[.slice a n c] w fun e w' => (e = .returned (.bool true) ∨ e = .returned (.bool false)) ∧ w' = w := by
  go_enter Try.func5, Try.ntmps5
  go_wp2
  all_goals go_ret
  all_goals first
    | exact ⟨.inl rfl, rfl⟩
    | exact ⟨.inr rfl, rfl⟩
end Go.Proofs.Qxb6001211a
