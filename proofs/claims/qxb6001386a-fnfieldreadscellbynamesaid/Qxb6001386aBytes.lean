import Derived.Test.Qxb6001386aSlices
namespace Go.Proofs.Qxb6001386a
open Go.RowKit

set_option maxHeartbeats 1000000 in
theorem bytes6 (a0 : Option Addr) (n0 c0 : Nat) (d0 : Nat → Addr) (f0 : Nat → ByteArray) (a1 : Option Addr) (n1 c1 : Nat) (d1 : Nat → Addr) (f1 : Nat → ByteArray) (a2 : Option Addr) (n2 c2 : Nat) (d2 : Nat → Addr) (f2 : Nat → ByteArray) (w : World)
    (h0 : Has w a0 n0 d0 f0) (h1 : Has w a1 n1 d1 f1) (h2 : Has w a2 n2 d2 f2) :
    Calls Try.prog 6 #[.slice a0 n0 c0, .slice a1 n1 c1, .slice a2 n2 c2] w (SomeBool w) := by
  go_enter Try.func6, Try.ntmps6
  go_wp2
  all_goals first
    | (go_ret; exact ⟨_, rfl, rfl⟩)
    | skip
  go_loop [7, 8] (fun t i => ∃ (k : Nat) (z : Int), k ≤ n0 ∧ i = .int .i64 k ∧ t = .int .i64 z) (fun _ i => n0 - (intOf i).toNat)
  case atStart => exact ⟨0, _, Nat.zero_le _, rfl, rfl⟩
  case round =>
    obtain ⟨k0, z0, hk0, rfl, rfl⟩ := hrel
    by_cases k0t : k0 < n0
    · have i1 := h0.1 k0 k0t n0 c0 k0t
      have hck := h0.2 k0 k0t
      go_wp2
      · go_ret
        exact ⟨_, rfl, rfl⟩
      · go_ret
        exact ⟨_, rfl, rfl⟩
      · go_round
        case rel => exact ⟨k0 + 1, _, by omega, by go_num, rfl⟩
        case measure => simp [intOf]; omega
    · go_wp2
      all_goals first
        | (go_ret; exact ⟨_, rfl, rfl⟩)
        | skip
      go_loop [7, 9] (fun t i => ∃ (k : Nat) (z : Int), k ≤ n1 ∧ i = .int .i64 k ∧ t = .int .i64 z) (fun _ i => n1 - (intOf i).toNat)
      case atStart => exact ⟨0, _, Nat.zero_le _, rfl, rfl⟩
      case round =>
        obtain ⟨k1, z1, hk1, rfl, rfl⟩ := hrel
        by_cases k1t : k1 < n1
        · have i1 := h1.1 k1 k1t n1 c1 k1t
          have hck := h1.2 k1 k1t
          go_wp2
          · go_ret
            exact ⟨_, rfl, rfl⟩
          · go_ret
            exact ⟨_, rfl, rfl⟩
          · go_round
            case rel => exact ⟨k1 + 1, _, by omega, by go_num, rfl⟩
            case measure => simp [intOf]; omega
        · go_wp2
          all_goals first
            | (go_ret; exact ⟨_, rfl, rfl⟩)
            | skip
          go_loop [7, 10] (fun t i => ∃ (k : Nat) (z : Int), k ≤ n2 ∧ i = .int .i64 k ∧ t = .int .i64 z) (fun _ i => n2 - (intOf i).toNat)
          case atStart => exact ⟨0, _, Nat.zero_le _, rfl, rfl⟩
          case round =>
            obtain ⟨k2, z2, hk2, rfl, rfl⟩ := hrel
            by_cases k2t : k2 < n2
            · have i1 := h2.1 k2 k2t n2 c2 k2t
              have hck := h2.2 k2 k2t
              go_wp2
              · go_ret
                exact ⟨_, rfl, rfl⟩
              · go_ret
                exact ⟨_, rfl, rfl⟩
              · go_round
                case rel => exact ⟨k2 + 1, _, by omega, by go_num, rfl⟩
                case measure => simp [intOf]; omega
            · go_wp2
              all_goals first
                | (go_ret; exact ⟨_, rfl, rfl⟩)
                | skip

set_option maxHeartbeats 1000000 in
theorem bytes14 (a0 : Option Addr) (n0 c0 : Nat) (d0 : Nat → Addr) (f0 : Nat → ByteArray) (a1 : Option Addr) (n1 c1 : Nat) (d1 : Nat → Addr) (f1 : Nat → ByteArray) (a2 : Option Addr) (n2 c2 : Nat) (d2 : Nat → Addr) (f2 : Nat → ByteArray) (w : World)
    (h0 : Has w a0 n0 d0 f0) (h1 : Has w a1 n1 d1 f1) (h2 : Has w a2 n2 d2 f2) :
    Calls Try.prog 14 #[.slice a0 n0 c0, .slice a1 n1 c1, .slice a2 n2 c2] w (SomeBool w) := by
  go_enter Try.func14, Try.ntmps14
  go_wp2
  all_goals first
    | (go_ret; exact ⟨_, rfl, rfl⟩)
    | skip
  go_loop [7, 8] (fun t i => ∃ (k : Nat) (z : Int), k ≤ n0 ∧ i = .int .i64 k ∧ t = .int .i64 z) (fun _ i => n0 - (intOf i).toNat)
  case atStart => exact ⟨0, _, Nat.zero_le _, rfl, rfl⟩
  case round =>
    obtain ⟨k0, z0, hk0, rfl, rfl⟩ := hrel
    by_cases k0t : k0 < n0
    · have i1 := h0.1 k0 k0t n0 c0 k0t
      have hck := h0.2 k0 k0t
      go_wp2
      · go_ret
        exact ⟨_, rfl, rfl⟩
      · go_ret
        exact ⟨_, rfl, rfl⟩
      · go_round
        case rel => exact ⟨k0 + 1, _, by omega, by go_num, rfl⟩
        case measure => simp [intOf]; omega
    · go_wp2
      all_goals first
        | (go_ret; exact ⟨_, rfl, rfl⟩)
        | skip
      go_loop [7, 9] (fun t i => ∃ (k : Nat) (z : Int), k ≤ n1 ∧ i = .int .i64 k ∧ t = .int .i64 z) (fun _ i => n1 - (intOf i).toNat)
      case atStart => exact ⟨0, _, Nat.zero_le _, rfl, rfl⟩
      case round =>
        obtain ⟨k1, z1, hk1, rfl, rfl⟩ := hrel
        by_cases k1t : k1 < n1
        · have i1 := h1.1 k1 k1t n1 c1 k1t
          have hck := h1.2 k1 k1t
          go_wp2
          · go_ret
            exact ⟨_, rfl, rfl⟩
          · go_ret
            exact ⟨_, rfl, rfl⟩
          · go_round
            case rel => exact ⟨k1 + 1, _, by omega, by go_num, rfl⟩
            case measure => simp [intOf]; omega
        · go_wp2
          all_goals first
            | (go_ret; exact ⟨_, rfl, rfl⟩)
            | skip
          go_loop [7, 10] (fun t i => ∃ (k : Nat) (z : Int), k ≤ n2 ∧ i = .int .i64 k ∧ t = .int .i64 z) (fun _ i => n2 - (intOf i).toNat)
          case atStart => exact ⟨0, _, Nat.zero_le _, rfl, rfl⟩
          case round =>
            obtain ⟨k2, z2, hk2, rfl, rfl⟩ := hrel
            by_cases k2t : k2 < n2
            · have i1 := h2.1 k2 k2t n2 c2 k2t
              have hck := h2.2 k2 k2t
              go_wp2
              · go_ret
                exact ⟨_, rfl, rfl⟩
              · go_ret
                exact ⟨_, rfl, rfl⟩
              · go_round
                case rel => exact ⟨k2 + 1, _, by omega, by go_num, rfl⟩
                case measure => simp [intOf]; omega
            · go_wp2
              all_goals first
                | (go_ret; exact ⟨_, rfl, rfl⟩)
                | skip

end Go.Proofs.Qxb6001386a
