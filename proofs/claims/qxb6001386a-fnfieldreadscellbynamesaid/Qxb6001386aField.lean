import Derived.Test.Qxb6001386aMatch
import Derived.Lib.QuietBelow
import Derived.Deep.RegionWith
namespace Go.Proofs.Qxb6001386a
open Go.RowKit Go.Maps Go.WideMaps Go.Sort

theorem below_of_kind {W w' : World} (h : ∃ p : Regrown, w' = grow (redrawn W p.d) p.os) : Below W.heap.size W w' := by
  obtain ⟨p, rfl⟩ := h
  exact below_regrown _ _ _

/-- A contract that ends in 'Ret', met in every world of the sort that the region's walk goes through. -/
theorem ret_kind {f : FuncId} {args : Array Value} {W : World} {v : Value} (h : ∀ wx, Below W.heap.size W wx → Calls Try.prog f args wx (Ret v wx)) (d : Nat) (os : Array Obj) :
    Calls Try.prog f args (grow (redrawn W d) os) fun e w'' => e = .returned v ∧ ∃ p : Regrown, w'' = grow (redrawn W p.d) p.os :=
  Calls.regrown_of (h _ (below_regrown W d os))

theorem same_ret {f : FuncId} {args : Array Value} {w : World} {v : Value} (h : Calls Try.prog f args w (Same v w)) : Calls Try.prog f args w (Ret v w) :=
  h.mono fun _ w' ⟨he, hw⟩ => ⟨he, by rw [hw]; exact Below.refl _ _⟩

/-- With the header as its own columns: taken just if it repeats no name. -/
theorem acc_self (Hd : Nat → ByteArray) (nh : Nat) (O : Nat → ByteArray) (no : Nat) : accB Hd nh Hd nh O no = !dupB Hd nh := by
  unfold accB
  rw [allB_true.2 (fun i hi => by simp [knownB, place_self hi]), allB_true.2 (fun j hj => by simp [place_self hj])]
  simp

theorem place_own {f : Nat → ByteArray} {n k : Nat} (h : dupB f n = false) (hk : k < n) : place f n (f k) = (k : Int) := by
  have h1 : allB n (fun i => decide (place f i (f i) < 0)) = true := by
    unfold dupB at h
    simpa using h
  have h2 := allB_true.1 h1 k hk
  have h3 : place f k (f k) < 0 := by simpa using h2
  have h4 : place f k (f k) = -1 := by
    rcases place_range f (f k) k with h | h
    · exact h
    · omega
  exact place_hit h4 rfl hk

set_option maxHeartbeats 400000 in
theorem newrow15 (p : ByteArray) (l : Int) (a : Option Addr) (n c : Nat) (m : Option Nat) (w : World) :
    Calls Try.prog 15 #[.string p, .int .i64 l, .slice a n c, .map m] w (Ret (.agg #[.string p, .int .i64 l, .slice a n c, .map m, .string ⟨#[]⟩]) w) := by
  go_enter Try.func15, Try.ntmps15
  go_wp2
  exact bodyPost_ret (v := .agg #[.string p, .int .i64 l, .slice a n c, .map m, .string ⟨#[]⟩]) (by simp [results, Try.results15, go_sem]) rfl ⟨rfl, (Below.refl _ _).alloc (Nat.le_refl _) _⟩

set_option maxHeartbeats 400000 in
theorem field16_none (p : ByteArray) (l : Int) (a : Option Addr) (nr c b n : Nat) (D : DataW Unit) (s sub : ByteArray) (w : World) (hown : w.ownsMap Try.prog 9 (plainElem Try.prog 3) b n D)
    (hs : s.size ≤ maxLen) (hhas : Maps.has D (ks s) = true) (hval : D.atKey (ks s) (.lit (.int .i64 0)) = .lit (.int .i64 (-1))) :
    Calls Try.prog 16 #[.agg #[.string p, .int .i64 l, .slice a nr c, .map (some b), .string sub], .string s] w (Ret (.string ⟨#[]⟩) w) := by
  have hkey := ks_ok hs
  go_enter Try.func16, Try.ntmps16
  go_wp2_with (at_lookup; refine wpList_lookup_own_ok_int _ rfl _ _ 26 rfl 9 3 .i64 law Try.underlying26 Try.underlying3 (zero3 _) b _ _ rfl (hown.alloc _) _ _ rfl hkey ?_; intro v hat hwc; obtain rfl := lit_inj (hval.symm.trans hat); clear hat hwc)
  go_ret
  exact ⟨rfl, (Below.refl _ _).alloc (Nat.le_refl _) _⟩

set_option maxHeartbeats 400000 in
theorem field16_some (p : ByteArray) (l : Int) (a : Option Addr) (nr c b n : Nat) (D : DataW Unit) (s sub : ByteArray) (ad : Nat → Addr) (R : Nat → ByteArray) (j : Nat) (w : World) (hown : w.ownsMap Try.prog 9 (plainElem Try.prog 3) b n D)
    (hr : Has w a nr ad R) (hj : j < nr) (hs : s.size ≤ maxLen) (hhas : Maps.has D (ks s) = true) (hval : D.atKey (ks s) (.lit (.int .i64 0)) = .lit (.int .i64 (j : Int))) :
    Calls Try.prog 16 #[.agg #[.string p, .int .i64 l, .slice a nr c, .map (some b), .string sub], .string s] w (Ret (.string (R j)) w) := by
  have hkey := ks_ok hs
  have i1 := hr.1 j hj nr c hj
  have hcj : (w.alloc (.cells #[.string p, .int .i64 l, .slice a nr c, .map (some b), .string sub] 34)).cell? (ad j) = some (.string (R j)) := cell_later ((Below.refl _ _).alloc (Nat.le_refl _) _) (hr.2 j hj)
  clear hr
  go_enter Try.func16, Try.ntmps16
  go_wp2_with (at_lookup; refine wpList_lookup_own_ok_int _ rfl _ _ 26 rfl 9 3 .i64 law Try.underlying26 Try.underlying3 (zero3 _) b _ _ rfl (hown.alloc _) _ _ rfl hkey ?_; intro v hat hwc; obtain rfl := lit_inj (hval.symm.trans hat); clear hat hwc)
  go_ret
  exact ⟨rfl, (Below.refl _ _).alloc (Nat.le_refl _) _⟩
end Go.Proofs.Qxb6001386a
