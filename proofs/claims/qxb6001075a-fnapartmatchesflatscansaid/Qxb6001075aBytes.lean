import Derived.Test.Qxb6001075aBase
namespace Go.Proofs.Qxb6001075a
open Go.RowKit

/-- It hands back some int, and nothing has turned. -/
def SomeInt (w : World) (e : Ending) (w' : World) : Prop := ∃ r : Int, e = .returned (.int .i64 r) ∧ w' = w
/-- It hands back some bool, and nothing has turned. -/
def SomeBool (w : World) (e : Ending) (w' : World) : Prop := ∃ r : Bool, e = .returned (.bool r) ∧ w' = w

set_option maxHeartbeats 400000 in
theorem bytes6 (a0 : Option Addr) (n0 c0 : Nat) (a1 : Option Addr) (n1 c1 : Nat) (a2 : Option Addr) (n2 c2 : Nat) (S : Nat → ByteArray) (w : World)
    (h1 : Has w a1 n1 (fun i => .string (S i))) (l0 : n0 ≤ 65536) (l1 : n1 ≤ 65536) (l2 : n2 ≤ 65536) :
    Calls Try.prog 6 #[.slice a0 n0 c0, .slice a1 n1 c1, .slice a2 n2 c2] w (SomeInt w) := by
  rcases h1 with h1 | ⟨b, o, rfl, hc⟩
  all_goals
    go_enter Try.func6, Try.ntmps6
    go_wp2
    go_loop [7, 8] (fun t i => ∃ (k : Nat) (z : Int), k ≤ n1 ∧ i = .int .i64 k ∧ t = .int .i64 z) (fun _ i => n1 - (intOf i).toNat)
    case atStart => exact ⟨0, _, Nat.zero_le _, rfl, rfl⟩
    case round =>
      obtain ⟨k, z, hk, rfl, rfl⟩ := hrel
      by_cases hlt : k < n1
      · first
          | (exfalso; omega)
          | have hck := hc k hlt
            go_wp2
            · go_ret
              exact ⟨_, rfl, rfl⟩
            · go_round
              case rel => exact ⟨k + 1, _, by omega, by go_num, rfl⟩
              case measure => simp [intOf]; omega
      · go_wp2
        go_ret
        exact ⟨_, rfl, rfl⟩

set_option maxHeartbeats 1000000 in
theorem bytes5 (a0 : Option Addr) (n0 c0 : Nat) (a1 : Option Addr) (n1 c1 : Nat) (a2 : Option Addr) (n2 c2 : Nat) (a3 : Option Addr) (n3 c3 : Nat) (a4 : Option Addr) (n4 c4 : Nat) (a5 : Option Addr) (n5 c5 : Nat) (S T : Nat → ByteArray) (w : World)
    (h1 : Has w a1 n1 (fun i => .string (S i))) (h4 : Has w a4 n4 (fun i => .string (T i))) :
    Calls Try.prog 5 #[.slice a0 n0 c0, .slice a1 n1 c1, .slice a2 n2 c2, .slice a3 n3 c3, .slice a4 n4 c4, .slice a5 n5 c5] w (SomeBool w) := by
  rcases h1 with h1 | ⟨b, o, rfl, hc⟩ <;> rcases h4 with h4 | ⟨b', o', rfl, hc'⟩
  all_goals
    go_enter Try.func5, Try.ntmps5
    go_wp2
  all_goals first
    | (go_ret; exact ⟨_, rfl, rfl⟩)
    | skip
  all_goals
    go_loop [13, 14] (fun t i => ∃ (k : Nat) (z : Int), k ≤ n1 ∧ i = .int .i64 k ∧ t = .int .i64 z) (fun _ i => n1 - (intOf i).toNat)
    case atStart => exact ⟨0, _, Nat.zero_le _, rfl, rfl⟩
    case round =>
      obtain ⟨k, z, hk, rfl, rfl⟩ := hrel
      by_cases hlt : k < n1
      · first
          | (exfalso; omega)
          | have hck := hc k hlt
            go_wp2
            · go_ret
              exact ⟨_, rfl, rfl⟩
            · go_ret
              exact ⟨_, rfl, rfl⟩
            · go_round
              case rel => exact ⟨k + 1, _, by omega, by go_num, rfl⟩
              case measure => simp [intOf]; omega
      · go_wp2
        all_goals first
          | (go_ret; exact ⟨_, rfl, rfl⟩)
          | skip
        go_loop [13, 15] (fun t i => ∃ (k : Nat) (z : Int), k ≤ n4 ∧ i = .int .i64 k ∧ t = .int .i64 z) (fun _ i => n4 - (intOf i).toNat)
        case atStart => exact ⟨0, _, Nat.zero_le _, rfl, rfl⟩
        case round =>
          obtain ⟨j, z, hj, rfl, rfl⟩ := hrel
          by_cases hjt : j < n4
          · first
              | (exfalso; omega)
              | have hcj := hc' j hjt
                go_wp2
                · go_ret
                  exact ⟨_, rfl, rfl⟩
                · go_ret
                  exact ⟨_, rfl, rfl⟩
                · go_round
                  case rel => exact ⟨j + 1, _, by omega, by go_num, rfl⟩
                  case measure => simp [intOf]; omega
          · go_wp2
            all_goals (go_ret; exact ⟨_, rfl, rfl⟩)
end Go.Proofs.Qxb6001075a
