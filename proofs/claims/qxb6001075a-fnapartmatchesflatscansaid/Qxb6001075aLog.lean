import Derived.Test.Qxb6001075aApplied
import Derived.Deep.RegionWith
import Derived.Deep.RegionHeld3
import Derived.Lib.QuietBelow
namespace Go.Proofs.Qxb6001075a
open Go.RowKit

/-- It hands back v; of what was there nothing has turned. -/
def Ret (v : Value) (w : World) (e : Ending) (w' : World) : Prop := e = .returned v ∧ Below w.heap.size w w'

set_option maxHeartbeats 400000 in
theorem last20 (s : Nat) (t : Int) (a : Option Addr) (n c : Nat) (w : World) (h : s + n ≤ 65536) :
    Calls Try.prog 20 #[.agg #[.int .u64 s, .int .u64 t, .slice a n c]] w (Ret (.int .u64 ((s + n : Nat) : Int)) w) := by
  go_enter Try.func20, Try.ntmps20
  go_wp2
  go_ret
  exact ⟨rfl, (Below.refl _ _).alloc (Nat.le_refl _) _⟩

set_option maxHeartbeats 400000 in
theorem first26 (s : Nat) (t : Int) (a : Option Addr) (n c : Nat) (w : World) (h : s ≤ 65536) :
    Calls Try.prog 26 #[.agg #[.int .u64 s, .int .u64 t, .slice a n c]] w fun e w' => e = .returned (.int .u64 ((s : Int) + 1)) ∧ w' = w.alloc (.cells #[.int .u64 s, .int .u64 t, .slice a n c] 43) := by
  go_enter Try.func26, Try.ntmps26
  go_wp2
  go_ret
  exact ⟨rfl, rfl⟩

set_option maxHeartbeats 400000 in
theorem entries23 (s t : Int) (a : Option Addr) (n c : Nat) (w : World) :
    Calls Try.prog 23 #[.agg #[.int .u64 s, .int .u64 t, .slice a n c]] w (Ret (.slice a n c) w) := by
  go_enter Try.func23, Try.ntmps23
  go_wp2
  go_ret
  exact ⟨rfl, (Below.refl _ _).alloc (Nat.le_refl _) _⟩

theorem wrap_u64_in (x : Int) (h0 : 0 ≤ x) (h1 : x ≤ 1000000) : IntKind.u64.wrap x = x := by
  rw [IntKind.wrap_u64]; omega

set_option maxHeartbeats 400000 in
theorem at25 (s : Nat) (t : Int) (b n c j : Nat) (N : Nat) (T : Nat → Int) (C : Nat → ByteArray) (ix : Int) (w : World) (hr : w.rowIs b 41 (N * 3) (entCell T C)) (h : s + n ≤ 65536) (hN : s + n ≤ N) (hj : j < n) (hix : ix = s + 1 + j) :
    Calls Try.prog 25 #[.agg #[.int .u64 s, .int .u64 t, .slice (some ⟨b, s * 3, none⟩) n c], .int .u64 ix] w (Ret (.agg #[.int .u64 (T (s + j)), .string (C (s + j)), .pointer none]) w) := by
  have hbw := hr.lt
  have e0 : s * 3 + j * 3 = (s + j) * 3 := by omega
  have c0 := hr.cell (i := s * 3 + j * 3) (by omega)
  have c1 := hr.cell (i := s * 3 + j * 3 + 1) (by omega)
  have c2 := hr.cell (i := s * 3 + j * 3 + 2) (by omega)
  rw [e0, entCell0, ← e0] at c0
  rw [e0, entCell1, ← e0] at c1
  rw [e0, entCell2, ← e0] at c2
  have hw : IntKind.u64.wrap (ix - ((s : Int) + 1)) = j := by rw [hix, wrap_u64_in _ (by omega) (by omega)]; omega
  have hj0 : (j : Int) < n := by omega
  clear e0 hix
  have hb1 : b < w.heap.size + 1 := by omega
  have hb2 : b < w.heap.size + 1 + 1 := by omega
  go_enter Try.func25, Try.ntmps25
  go_wp2
  go_region_with (go_at_call 26; refine (first26 _ _ _ _ _ _ (by omega)).mono ?_; rintro e w' ⟨rfl, rfl⟩)
  all_goals
    go_wp2
    exact bodyPost_ret (v := .agg #[.int .u64 (T (s + j)), .string (C (s + j)), .pointer none]) (by simp [results, Try.results25, go_sem]) rfl ⟨rfl, ((((Below.refl _ _).alloc (Nat.le_refl _) _).alloc (by simp) _).alloc (by simp; omega) _).drew⟩

theorem field41 (x : Int) (y : ByteArray) (w : World) : (Instr.field 41 (.agg #[.int .u64 x, .string y, .pointer none]) 0).run Try.prog w = .ok (.int .u64 x) w := by kernel_rfl

set_option maxHeartbeats 400000 in
theorem term24 (s : Nat) (t : Int) (b n c d : Nat) (N : Nat) (T : Nat → Int) (C : Nat → ByteArray) (ix : Int) (w : World) (hr : w.rowIs b 41 (N * 3) (entCell T C)) (h : s + n ≤ 65536) (hN : s + n ≤ N) (hd : d ≤ n) (hix : ix = s + d) :
    Calls Try.prog 24 #[.agg #[.int .u64 s, .int .u64 t, .slice (some ⟨b, s * 3, none⟩) n c], .int .u64 ix] w (Ret (.int .u64 (if d = 0 then t else T (s + d - 1))) w) := by
  have hbw := hr.lt
  by_cases h0 : d = 0
  · have hx : (ix == (s : Int)) = true := by simp; omega
    clear hix
    rw [if_pos h0]
    clear h0
    go_enter Try.func24, Try.ntmps24
    go_wp2
    go_ret
    exact ⟨rfl, (Below.refl _ _).alloc (Nat.le_refl _) _⟩
  · have hx : (ix == (s : Int)) = false := by simp; omega
    have H : Hid (ix = s + 1 + ((d - 1 : Nat) : Int)) := by show ix = s + 1 + ((d - 1 : Nat) : Int); omega
    have E : s + (d - 1) = s + d - 1 := by omega
    rw [if_neg h0, ← E]
    have hdp : 0 < d := by omega
    have hfl := field41
    clear hix h0 E
    go_enter Try.func24, Try.ntmps24
    go_wp2_with (go_at_call 25; refine (at25 s t b n c (d - 1) N T C ix _ (hr.alloc _) h hN (by omega) H.out).mono ?_; rintro e w' ⟨rfl, hb⟩)
    go_ret
    exact ⟨rfl, (((Below.refl _ _).alloc (Nat.le_refl _) _).trans (hb.mono (by simp)))⟩

set_option maxHeartbeats 400000 in
theorem after21 (s : Nat) (t : Int) (b n c d : Nat) (N : Nat) (T : Nat → Int) (C : Nat → ByteArray) (ix : Int) (w : World) (hr : w.rowIs b 41 (N * 3) (entCell T C)) (h : s + n ≤ 65536) (hN : s + n ≤ N) (hd : d < n) (hc : n ≤ c) (hix : ix = s + d) :
    Calls Try.prog 21 #[.agg #[.int .u64 s, .int .u64 t, .slice (some ⟨b, s * 3, none⟩) n c], .int .u64 ix] w (Ret (.agg #[.int .u64 ix, .int .u64 (if d = 0 then t else T (s + d - 1)), .slice (some ⟨b, s * 3 + d * 3, none⟩) (n - d) (c - d)]) w) := by
  have hbw := hr.lt
  have H : Hid (ix = s + d) := hix
  have hw : IntKind.u64.wrap (ix - (s : Int)) = d := by rw [hix, wrap_u64_in _ (by omega) (by omega)]; omega
  have hd0 : (d : Int) < n := by omega
  have hd1 : (d : Int) ≤ n := by omega
  have hcd : ¬ c = d := by omega
  generalize hval : (if d = 0 then t else T (s + d - 1)) = tv
  have HV : Hid ((if d = 0 then t else T (s + d - 1)) = tv) := hval
  clear hix hval
  go_enter Try.func21, Try.ntmps21
  go_wp2
  go_region_held3 (fun w' => w'.cell? ⟨w.heap.size, 0, none⟩ = some (.int .u64 s) ∧ w'.cell? ⟨w.heap.size, 1, none⟩ = some (.int .u64 t) ∧ w'.cell? ⟨w.heap.size, 2, none⟩ = some (.slice (some ⟨b, s * 3, none⟩) n c)) (go_keep) (first | (go_at_call 24; refine (term24 s t b n c d N T C ix _ ((hr.alloc _).alloc _).drew h hN (by omega) H.out).mono ?_; rw [HV.out]; rintro e w1 ⟨rfl, hb⟩; have k0 : w1.cell? ⟨w.heap.size, 0, none⟩ = some (.int .u64 s) := cell_later hb (by simp); have k1 : w1.cell? ⟨w.heap.size, 1, none⟩ = some (.int .u64 t) := cell_later hb (by simp); have k2 : w1.cell? ⟨w.heap.size, 2, none⟩ = some (.slice (some ⟨b, s * 3, none⟩) n c) := cell_later hb (by simp); have m0 : w1.cell? ⟨w.heap.size + 1, 0, none⟩ = some (.int .u64 0) := cell_later hb (by simp); have m1 : w1.cell? ⟨w.heap.size + 1, 1, none⟩ = some (.int .u64 0) := cell_later hb (by simp); have m2 : w1.cell? ⟨w.heap.size + 1, 2, none⟩ = some (.slice none 0 0) := cell_later hb (by simp); have z0 : ∀ o, w1.frozen? ⟨w.heap.size + 1, o, none⟩ = false := fun o => (hb.frozen (p := ⟨w.heap.size + 1, o, none⟩) (by simp)).trans (by simp)))
  all_goals
    have hb0 : Below w.heap.size w w1 := ((((Below.refl _ _).alloc (Nat.le_refl _) _).alloc (by simp) _).drew).trans (hb.mono (by simp; omega))
    go_wp2
    exact bodyPost_ret (v := .agg #[.int .u64 ix, .int .u64 tv, .slice (some ⟨b, s * 3 + d * 3, none⟩) (n - d) (c - d)]) (by simp [results, Try.results21, go_sem, m0, m1, m2]) rfl ⟨rfl, ((hb0.setCell (by simp) _).setCell (by simp) _).setCell (by simp) _⟩

set_option maxHeartbeats 400000 in
theorem through22 (s : Nat) (t : Int) (a : Option Addr) (n c k : Nat) (ix : Int) (w : World) (h : s + n ≤ 65536) (hk : k ≤ n) (hc : n ≤ c) (hix : ix = s + k) :
    Calls Try.prog 22 #[.agg #[.int .u64 s, .int .u64 t, .slice a n c], .int .u64 ix] w (Ret (.agg #[.int .u64 s, .int .u64 t, .slice a k k]) w) := by
  have hw : IntKind.u64.wrap (ix - (s : Int)) = k := by rw [hix, wrap_u64_in _ (by omega) (by omega)]; omega
  have hd1 : (k : Int) ≤ c := by omega
  go_enter Try.func22, Try.ntmps22
  go_wp2
  go_region
  all_goals
    go_wp2
    exact bodyPost_ret (v := .agg #[.int .u64 s, .int .u64 t, .slice a k k]) (by simp [results, Try.results22, go_sem]) rfl ⟨rfl, (((Below.refl _ _).alloc (Nat.le_refl _) _).alloc (by simp) _).drew⟩

theorem RunsAt.mono {w : World} {R b n m : Nat} {E : Nat → Nat} (h : RunsAt w R b n m E) : ∀ i, i ≤ m → E i ≤ n := by
  have key : ∀ d i, i + d = m → E i ≤ E m := by
    intro d
    induction d with
    | zero => intro i hi; have : i = m := by omega
              subst this; exact Nat.le_refl _
    | succ d ih => intro i hi; exact Nat.le_trans (h.2.2.1 i (by omega)) (ih (i + 1) (by omega))
  intro i hi
  have := key (m - i) i (by omega)
  rwa [h.2.1] at this

set_option maxHeartbeats 400000 in
theorem last19 (R b n m cap : Nat) (E : Nat → Nat) (w : World) (hr : RunsAt w R b n m E) (h : n ≤ 65536) (hm : 0 < m) (hm2 : m ≤ 65537) :
    Calls Try.prog 19 #[.agg #[.slice (some ⟨R, 0, none⟩) m cap]] w (Ret (.int .u64 (n : Int)) w) := by
  obtain ⟨t, o, c0, c1, c2, _⟩ := hr.2.2.2 (m - 1) (by omega)
  have hs := hr.2.2.1 (m - 1) (by omega)
  have e1 : m - 1 + 1 = m := by omega
  have hE := hr.2.1
  rw [e1, hE] at hs c2
  have hRw : R < w.heap.size := World.block_lt_of_cell? _ _ c0
  clear e1 hE
  generalize E (m - 1) = s at *
  go_enter Try.func19, Try.ntmps19
  go_wp2_with (go_at_call 20; refine (last20 s t _ _ _ _ (by omega)).mono ?_; rintro e w' ⟨rfl, hb⟩)
  go_ret
  exact ⟨rfl, ((Below.refl _ _).alloc (Nat.le_refl _) _).trans (hb.mono (by simp))⟩
end Go.Proofs.Qxb6001075a
