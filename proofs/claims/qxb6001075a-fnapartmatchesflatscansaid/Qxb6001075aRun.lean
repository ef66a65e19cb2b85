import Derived.Test.Qxb6001075aEntries
namespace Go.Proofs.Qxb6001075a
open Go.RowKit

set_option maxHeartbeats 400000 in
theorem log18 (s t : Int) (a : Option Addr) (n c : Nat) (w : World) :
    Calls Try.prog 18 #[.int .u64 s, .int .u64 t, .slice a n c] w fun e w' => e = .returned (.agg #[.int .u64 s, .int .u64 t, .slice a n c]) ∧ w' = w.alloc (.cells #[.int .u64 s, .int .u64 t, .slice a n c] 43) := by
  go_enter Try.func18, Try.ntmps18
  go_wp2
  exact bodyPost_ret (v := .agg #[.int .u64 s, .int .u64 t, .slice a n c]) (by simp [results, Try.results18, go_sem]) rfl ⟨rfl, rfl⟩

/-- A run of the entries at block b: those from lo to hi. -/
def RunIs (b n lo hi : Nat) (v : Value) : Prop :=
  ∃ t o, v = .agg #[.int .u64 lo, .int .u64 t, .slice (some ⟨b, o, none⟩) (hi - lo) (n - lo)] ∧ (lo < hi → o = lo * 3)

def RunOut (w : World) (b n lo hi : Nat) (e : Ending) (w' : World) : Prop :=
  ∃ t o, e = .returned (.agg #[.int .u64 lo, .int .u64 t, .slice (some ⟨b, o, none⟩) (hi - lo) (n - lo)]) ∧ (lo < hi → o = lo * 3) ∧ Below w.heap.size w w'

set_option maxHeartbeats 400000 in
theorem run15 (b n lo hi : Nat) (T : Nat → Int) (C : Nat → ByteArray) (w : World) (hr : w.rowIs b 41 (n * 3) (entCell T C)) (l : n ≤ 65536) (h1 : lo ≤ hi) (h2 : hi ≤ n) :
    Calls Try.prog 15 #[.slice (some ⟨b, 0, none⟩) n n, .int .i64 lo, .int .i64 hi] w (RunOut w b n lo hi) := by
  have hbw := hr.lt
  by_cases h0 : 0 < lo
  · have hc := hr.cell (i := (lo - 1) * 3) (by omega)
    rw [entCell0] at hc
    by_cases h3 : n = lo
    · have h4 : ¬ lo < hi := by omega
      subst h3
      go_enter Try.func15, Try.ntmps15
      go_wp2_with (go_at_call 18; refine (log18 _ _ _ _ _ _).mono ?_; rintro e w' ⟨rfl, rfl⟩)
      exact bodyPost_ret (v := .agg #[.int .u64 n, .int .u64 (T (n - 1)), .slice (some ⟨b, 0, none⟩) (hi - n) (n - n)]) (by simp [results, Try.results15, go_sem]; omega) rfl ⟨_, _, rfl, fun h => absurd h h4, ((Below.refl _ _).alloc (Nat.le_refl _) _).alloc (by simp) _⟩
    · go_enter Try.func15, Try.ntmps15
      go_wp2_with (go_at_call 18; refine (log18 _ _ _ _ _ _).mono ?_; rintro e w' ⟨rfl, rfl⟩)
      exact bodyPost_ret (v := .agg #[.int .u64 lo, .int .u64 (T (lo - 1)), .slice (some ⟨b, lo * 3, none⟩) (hi - lo) (n - lo)]) (by simp [results, Try.results15, go_sem]) rfl ⟨_, _, rfl, fun _ => rfl, ((Below.refl _ _).alloc (Nat.le_refl _) _).alloc (by simp) _⟩
  · by_cases h3 : n = lo
    · have h4 : ¬ lo < hi := by omega
      subst h3
      go_enter Try.func15, Try.ntmps15
      go_wp2_with (go_at_call 18; refine (log18 _ _ _ _ _ _).mono ?_; rintro e w' ⟨rfl, rfl⟩)
      exact bodyPost_ret (v := .agg #[.int .u64 n, .int .u64 0, .slice (some ⟨b, 0, none⟩) (hi - n) (n - n)]) (by simp [results, Try.results15, go_sem]; omega) rfl ⟨_, _, rfl, fun h => absurd h h4, ((Below.refl _ _).alloc (Nat.le_refl _) _).alloc (by simp) _⟩
    · go_enter Try.func15, Try.ntmps15
      go_wp2_with (go_at_call 18; refine (log18 _ _ _ _ _ _).mono ?_; rintro e w' ⟨rfl, rfl⟩)
      exact bodyPost_ret (v := .agg #[.int .u64 lo, .int .u64 0, .slice (some ⟨b, lo * 3, none⟩) (hi - lo) (n - lo)]) (by simp [results, Try.results15, go_sem]) rfl ⟨_, _, rfl, fun _ => rfl, ((Below.refl _ _).alloc (Nat.le_refl _) _).alloc (by simp) _⟩
end Go.Proofs.Qxb6001075a
