import Derived.Test.Qxb6001386aMap
namespace Go.Proofs.Qxb6001386a
open Go.RowKit Go.Maps Go.WideMaps

theorem known_iff {C : Nat → ByteArray} {nc : Nat} {O : Nat → ByteArray} {no : Nat} {s : ByteArray} : key s ∈ names O no ++ names C nc ↔ knownB C nc O no s = true := by
  rw [List.mem_append, mem_names, mem_names]
  simp [knownB]
  constructor
  · intro h; exact h.symm
  · intro h; exact h.symm

/-- What 'headerIndex' hands back. -/
def HdrOut (w : World) (Hd : Nat → ByteArray) (nh : Nat) (C : Nat → ByteArray) (nc : Nat) (O : Nat → ByteArray) (no : Nat) (e : Ending) (w' : World) : Prop :=
  (accB Hd nh C nc O no = true ∧ ∃ b n, e = .returned (.tuple #[.map (some b), .bool true]) ∧ St w' b n (names O no ++ names C nc) (place Hd nh) ∧ Below w.heap.size w w') ∨
  (accB Hd nh C nc O no = false ∧ e = .returned (.tuple #[.map none, .bool false]) ∧ Below w.heap.size w w')

theorem acc_no_known {Hd : Nat → ByteArray} {nh : Nat} {C : Nat → ByteArray} {nc : Nat} {O : Nat → ByteArray} {no k : Nat} (hk : k < nh) (h : knownB C nc O no (Hd k) = false) : accB Hd nh C nc O no = false := by
  unfold accB
  rw [allB_false (p := fun i => knownB C nc O no (Hd i)) hk h]
  simp
theorem acc_no_dup {Hd : Nat → ByteArray} {nh : Nat} {C : Nat → ByteArray} {nc : Nat} {O : Nat → ByteArray} {no k : Nat} (hk : k < nh) (h : 0 ≤ place Hd k (Hd k)) : accB Hd nh C nc O no = false := by
  unfold accB dupB
  rw [allB_false (p := fun i => decide (place Hd i (Hd i) < 0)) hk (by simpa using h)]
  simp
theorem acc_no_col {Hd : Nat → ByteArray} {nh : Nat} {C : Nat → ByteArray} {nc : Nat} {O : Nat → ByteArray} {no k : Nat} (hk : k < nc) (h : place Hd nh (C k) < 0) : accB Hd nh C nc O no = false := by
  unfold accB
  rw [allB_false (p := fun j => decide (0 ≤ place Hd nh (C j))) hk (by simpa using h)]
  simp
theorem acc_yes {Hd : Nat → ByteArray} {nh : Nat} {C : Nat → ByteArray} {nc : Nat} {O : Nat → ByteArray} {no : Nat} (h1 : ∀ i, i < nh → knownB C nc O no (Hd i) = true ∧ place Hd i (Hd i) < 0) (h2 : ∀ j, j < nc → 0 ≤ place Hd nh (C j)) : accB Hd nh C nc O no = true := by
  unfold accB dupB
  rw [allB_true.2 (fun i hi => by simpa using (h1 i hi).2), allB_true.2 (fun i hi => (h1 i hi).1), allB_true.2 (fun j hj => by simpa using h2 j hj)]
  rfl

theorem lit_inj {a b : Int} (h : (DataW.lit (H := Unit) (.int .i64 a)) = .lit (.int .i64 b)) : a = b := by
  injection h with h
  injection h

set_option maxHeartbeats 2000000 in
theorem header17 (a0 : Option Addr) (nh c0 : Nat) (d0 : Nat → Addr) (Hd : Nat → ByteArray) (a1 : Option Addr) (nc c1 : Nat) (d1 : Nat → Addr) (C : Nat → ByteArray) (a2 : Option Addr) (no c2 : Nat) (d2 : Nat → Addr) (O : Nat → ByteArray) (w : World)
    (h0 : Has w a0 nh d0 Hd) (h1 : Has w a1 nc d1 C) (h2 : Has w a2 no d2 O) (l0 : nh ≤ 1024) (l1 : nc ≤ 1024) (l2 : no ≤ 1024)
    (m0 : ∀ i, i < nh → (Hd i).size ≤ maxLen) (m1 : ∀ i, i < nc → (C i).size ≤ maxLen) (m2 : ∀ i, i < no → (O i).size ≤ maxLen) :
    Calls Try.prog 17 #[.slice a0 nh c0, .slice a1 nc c1, .slice a2 no c2] w (HdrOut w Hd nh C nc O no) := by
  have hmm := make26
  have hs0 := St.start w (place Hd 0)
  go_enter Try.func17, Try.ntmps17
  go_wp2
  clear hmm
  go_loopw [27] (fun i wr => ∃ k : Nat, k ≤ no ∧ i = .int .i64 k ∧ St wr w.heap.size k (names O k) (place Hd 0) ∧ Below w.heap.size w wr) (fun i _ => no - (intOf i).toNat)
  case atStart => exact ⟨0, Nat.zero_le _, rfl, hs0, (Below.refl _ _).alloc (Nat.le_refl _) _⟩
  case round =>
    clear hs0
    obtain ⟨k, hk, rfl, hst, hb⟩ := hrel
    by_cases hlt : k < no
    · have i1 := h2.1 k hlt no c2 hlt
      have hck := cell_later hb (h2.2 k hlt)
      have hkey := ks_ok (m2 k hlt)
      obtain ⟨D, hown, q1, q2, q3⟩ := hst
      go_wp2_with (at_mapUpdate; refine wpList_mapUpdate_own _ rfl _ _ _ 26 rfl 9 3 law Try.underlying26 _ w.heap.size k _ rfl hown (by unfold maxLen; omega) _ _ _ rfl rfl hkey _ [] (plainElem_int Try.underlying3 (by decide)) ?_; intro w1 hown1 hgrow1; have hst1 := St.put (fun t => place_zero Hd t) hown q1 q2 q3 hown1; rw [← names_succ] at hst1; have hb1 := hb.grown hgrow1 hb.size (fun j hj => by cases hj; exact Nat.le_refl _); clear hown1 hgrow1 hown q1 q2 q3)
      go_roundw
      case rel => exact ⟨k + 1, by omega, by go_num, hst1, hb1⟩
      case measure => simp [intOf]; omega
    · have e : k = no := by omega
      rw [e] at hst
      clear e
      go_wp2
      go_loopw [36] (fun i wr => ∃ k : Nat, k ≤ nc ∧ i = .int .i64 k ∧ St wr w.heap.size (no + k) (names O no ++ names C k) (place Hd 0) ∧ Below w.heap.size w wr) (fun i _ => nc - (intOf i).toNat)
      case atStart => exact ⟨0, Nat.zero_le _, rfl, by simpa [names] using hst, hb⟩
      case round =>
        clear hst hb hlt hk
        obtain ⟨k2, hk, rfl, hst, hb⟩ := hrel
        by_cases hlt : k2 < nc
        · have i1 := h1.1 k2 hlt nc c1 hlt
          have hck := cell_later hb (h1.2 k2 hlt)
          have hkey := ks_ok (m1 k2 hlt)
          obtain ⟨D, hown, q1, q2, q3⟩ := hst
          go_wp2_with (at_mapUpdate; refine wpList_mapUpdate_own _ rfl _ _ _ 26 rfl 9 3 law Try.underlying26 _ w.heap.size (no + k2) _ rfl hown (by unfold maxLen; omega) _ _ _ rfl rfl hkey _ [] (plainElem_int Try.underlying3 (by decide)) ?_; intro w1 hown1 hgrow1; have hst1 := St.put (fun t => place_zero Hd t) hown q1 q2 q3 hown1; rw [List.append_assoc, ← names_succ] at hst1; have hb1 := hb.grown hgrow1 hb.size (fun j hj => by cases hj; exact Nat.le_refl _); clear hown1 hgrow1 hown q1 q2 q3)
          go_roundw
          case rel => exact ⟨k2 + 1, by omega, by go_num, hst1, hb1⟩
          case measure => simp [intOf]; omega
        · have e : k2 = nc := by omega
          rw [e] at hst
          clear e
          go_wp2
          go_loopw [45] (fun i wr => ∃ k : Nat, k ≤ nh ∧ i = .int .i64 k ∧ St wr w.heap.size (no + nc + k) (names O no ++ names C nc) (place Hd k) ∧ Hid (∀ i, i < k → knownB C nc O no (Hd i) = true ∧ place Hd i (Hd i) < 0) ∧ Below w.heap.size w wr) (fun i _ => nh - (intOf i).toNat)
          case atStart => exact ⟨0, Nat.zero_le _, rfl, hst, fun i hi => absurd hi (Nat.not_lt_zero _), hb⟩
          case round =>
            clear hst hb hlt hk
            obtain ⟨k3, hk, rfl, hst, hall, hb⟩ := hrel
            by_cases hlt : k3 < nh
            · have i1 := h0.1 k3 hlt nh c0 hlt
              have hck := cell_later hb (h0.2 k3 hlt)
              have hkey := ks_ok (m0 k3 hlt)
              obtain ⟨D, hown, q1, q2, q3⟩ := hst
              by_cases hkn : knownB C nc O no (Hd k3) = true
              · have hmem := known_iff.2 hkn
                have hhas : Maps.has D (ks (Hd k3)) = true := by rw [q1]; simpa using hmem
                have hval := q2 _ hmem
                have hrg := place_range Hd (Hd k3) k3
                by_cases hpl : 0 ≤ place Hd k3 (Hd k3)
                · have HA : Hid (accB Hd nh C nc O no = false) := acc_no_dup hlt hpl
                  generalize place Hd k3 (Hd k3) = pl at *
                  clear hmem hrg hall q1 q2 q3
                  go_wp2_with (at_lookup; refine wpList_lookup_own_ok_int _ rfl _ _ 26 rfl 9 3 .i64 law Try.underlying26 Try.underlying3 (zero3 _) w.heap.size _ _ rfl hown _ _ rfl hkey ?_; intro c hat hwc; obtain rfl := lit_inj (hval.symm.trans hat); clear hat hwc)
                  go_ret2
                  exact .inr ⟨HA.out, rfl, hb⟩
                · have hp1 : place Hd k3 (Hd k3) = -1 := by omega
                  have HN : Hid (∀ i, i < k3 + 1 → knownB C nc O no (Hd i) = true ∧ place Hd i (Hd i) < 0) := by
                    intro i hi
                    by_cases e : i = k3
                    · subst e; exact ⟨hkn, by omega⟩
                    · exact hall.out i (by omega)
                  rw [hp1] at hval
                  have HS : Hid (∀ w1, w1.ownsMap Try.prog 9 (plainElem Try.prog 3) w.heap.size (no + nc + k3 + 1) (D.put (ks (Hd k3)) (.lit (.int .i64 (k3 : Int)))) → St w1 w.heap.size (no + nc + k3 + 1) (names O no ++ names C nc) (place Hd (k3 + 1))) := fun w1 h => St.set hown q1 q2 q3 hmem hp1 h
                  clear hrg hpl hp1 hall q1 q2 q3 hmem hkn
                  go_wp2_with (first | (at_lookup; refine wpList_lookup_own_ok_int _ rfl _ _ 26 rfl 9 3 .i64 law Try.underlying26 Try.underlying3 (zero3 _) w.heap.size _ _ rfl hown _ _ rfl hkey ?_; intro c hat hwc; obtain rfl := lit_inj (hval.symm.trans hat); clear hat hwc) | (at_mapUpdate; refine wpList_mapUpdate_own _ rfl _ _ _ 26 rfl 9 3 law Try.underlying26 _ w.heap.size (no + nc + k3) _ rfl hown (by unfold maxLen; omega) _ _ _ rfl rfl hkey _ [] (plainElem_int Try.underlying3 (WalkArith.wf_i64 (by omega))) ?_; intro w1 hown1 hgrow1; have hst1 := HS.out w1 hown1; have hb1 := hb.grown hgrow1 hb.size (fun j hj => by cases hj; exact Nat.le_refl _); clear hown1 hgrow1 hown))
                  go_roundw
                  case rel => exact ⟨k3 + 1, by omega, by go_num, hst1, HN, hb1⟩
                  case measure => simp [intOf]; omega
              · have hkn' : knownB C nc O no (Hd k3) = false := by simpa using hkn
                have HA : Hid (accB Hd nh C nc O no = false) := acc_no_known hlt hkn'
                have hmem : ¬ key (Hd k3) ∈ names O no ++ names C nc := fun h => hkn (known_iff.1 h)
                have hhas : Maps.has D (ks (Hd k3)) = false := by rw [q1]; simpa using hmem
                clear hkn hkn' hmem hall q1 q2 q3
                go_wp2_with (at_lookup; refine wpList_lookup_own_ok_int _ rfl _ _ 26 rfl 9 3 .i64 law Try.underlying26 Try.underlying3 (zero3 _) w.heap.size _ _ rfl hown _ _ rfl hkey ?_; intro c hat hwc)
                go_ret2
                exact .inr ⟨HA.out, rfl, hb⟩
            · have e : k3 = nh := by omega
              rw [e] at hst hall
              clear e
              obtain ⟨D, hown, q1, q2, q3⟩ := hst
              have HSt : Hid (St wr w.heap.size (no + nc + nh) (names O no ++ names C nc) (place Hd nh)) := ⟨D, hown, q1, q2, q3⟩
              have HQ : Hid (∀ s, key s ∈ names O no ++ names C nc → D.atKey (ks s) (.lit (.int .i64 0)) = .lit (.int .i64 (place Hd nh s))) := q2
              clear q1 q2 q3
              go_wp2
              clear hlt hk
              go_loop [68] (fun i => ∃ k : Nat, k ≤ nc ∧ i = .int .i64 k ∧ Hid (∀ j, j < k → 0 ≤ place Hd nh (C j))) (fun i => nc - (intOf i).toNat)
              case atStart => exact ⟨0, Nat.zero_le _, rfl, fun j hj => absurd hj (Nat.not_lt_zero _)⟩
              case round =>
                obtain ⟨k4, hk, rfl, hcol⟩ := hrel
                by_cases hlt : k4 < nc
                · have i1 := h1.1 k4 hlt nc c1 hlt
                  have hck := cell_later hb (h1.2 k4 hlt)
                  have hkey := ks_ok (m1 k4 hlt)
                  have hmem : key (C k4) ∈ names O no ++ names C nc := List.mem_append.2 (.inr (mem_names.2 (by have := place_range C (C k4) k4; have h := place_more (f := C) (s := C k4) (n := k4 + 1) (by rw [place_succ]; split; assumption; simp) (nc - (k4 + 1)); rw [show k4 + 1 + (nc - (k4 + 1)) = nc by omega] at h; rw [h, place_succ]; split; assumption; simp)))
                  have hval := HQ.out _ hmem
                  by_cases hpl : 0 ≤ place Hd nh (C k4)
                  · have HN : Hid (∀ j, j < k4 + 1 → 0 ≤ place Hd nh (C j)) := by
                      intro j hj
                      by_cases e : j = k4
                      · subst e; exact hpl
                      · exact hcol.out j (by omega)
                    clear hmem hcol
                    generalize place Hd nh (C k4) = pl at *
                    go_wp2_with (at_lookup; refine wpList_lookup_own_int _ rfl _ _ 26 rfl 9 3 .i64 law Try.underlying26 Try.underlying3 (zero3 _) w.heap.size _ _ rfl hown _ _ rfl hkey ?_; intro c hat hwc; obtain rfl := lit_inj (hval.symm.trans hat); clear hat hwc)
                    go_round
                    case rel => exact ⟨k4 + 1, by omega, by go_num, HN⟩
                    case measure => simp [intOf]; omega
                  · have HA : Hid (accB Hd nh C nc O no = false) := acc_no_col hlt (by omega)
                    clear hmem hcol
                    generalize place Hd nh (C k4) = pl at *
                    go_wp2_with (at_lookup; refine wpList_lookup_own_int _ rfl _ _ 26 rfl 9 3 .i64 law Try.underlying26 Try.underlying3 (zero3 _) w.heap.size _ _ rfl hown _ _ rfl hkey ?_; intro c hat hwc; obtain rfl := lit_inj (hval.symm.trans hat); clear hat hwc)
                    go_ret2
                    exact .inr ⟨HA.out, rfl, hb⟩
                · have HA : Hid (accB Hd nh C nc O no = true) := acc_yes hall.out (fun j hj => hcol.out j (by omega))
                  go_wp2
                  go_ret2
                  exact .inl ⟨HA.out, _, _, rfl, HSt.out, hb⟩

set_option maxHeartbeats 400000 in
theorem header9 (a0 : Option Addr) (nh c0 : Nat) (d0 : Nat → Addr) (Hd : Nat → ByteArray) (a1 : Option Addr) (nc c1 : Nat) (d1 : Nat → Addr) (C : Nat → ByteArray) (a2 : Option Addr) (no c2 : Nat) (d2 : Nat → Addr) (O : Nat → ByteArray) (w : World)
    (h0 : Has w a0 nh d0 Hd) (h1 : Has w a1 nc d1 C) (h2 : Has w a2 no d2 O) (l0 : nh ≤ 1024) (l1 : nc ≤ 1024) (l2 : no ≤ 1024)
    (m0 : ∀ i, i < nh → (Hd i).size ≤ maxLen) (m1 : ∀ i, i < nc → (C i).size ≤ maxLen) (m2 : ∀ i, i < no → (O i).size ≤ maxLen) :
    Calls Try.prog 9 #[.slice a0 nh c0, .slice a1 nc c1, .slice a2 no c2] w (HdrOut w Hd nh C nc O no) := by
  have K := header17 a0 nh c0 d0 Hd a1 nc c1 d1 C a2 no c2 d2 O w h0 h1 h2 l0 l1 l2 m0 m1 m2
  clear h0 h1 h2 m0 m1 m2
  go_enter Try.func9, Try.ntmps9
  go_wp2_with fail
  refine K.mono ?_
  rintro e w1 (⟨ha, b, n, rfl, hst, hb⟩ | ⟨ha, rfl, hb⟩)
  · have HA : Hid (accB Hd nh C nc O no = true) := ha
    clear ha K
    go_wp2
    go_ret2
    exact .inl ⟨HA.out, _, _, rfl, hst, hb⟩
  · have HA : Hid (accB Hd nh C nc O no = false) := ha
    clear ha K
    go_wp2
    go_ret2
    exact .inr ⟨HA.out, rfl, hb⟩
end Go.Proofs.Qxb6001386a
