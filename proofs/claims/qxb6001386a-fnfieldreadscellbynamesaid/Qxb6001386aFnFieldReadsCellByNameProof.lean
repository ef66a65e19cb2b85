/-
  The proof of 'Rows.FnFieldReadsCellByNameSaid'.
-/
import Derived.Test.Qxb6001386aRows
import Derived.Test.Qxb6001386aRead
import Derived.ProofKit
import Derived.OpenShut
import Derived.ShutString
import Derived.SliceStrings
import Derived.ChangeOld
import Derived.Below
namespace Go.Proofs.Qxb6001386a.fnFieldReadsCellByName
open Go.ChangeShapes Go.WideShapes Go.ChangeAt Go.RowKit
set_option linter.unusedVariables false

theorem own : ownKnob Try.prog.godebug = none := by kernel_rfl
theorem laidOut : laidOutB Try.prog = true := by kernel_rfl

theorem has_open {W : World} {x : Addr} {len cap : Nat} {f : Nat → ByteArray} (hl : len ≤ cap) (hcell : ∀ i, i < cap → W.cell? (x.add i) = some (.string (f i))) : ∃ ad, Has W (some x) len ad f := by
  by_cases h : len < 1
  · exact ⟨fun _ => x, has_none h _ _⟩
  · obtain ⟨b, off, spot⟩ := x
    have hspot : spot = none := by simpa [Addr.add] using World.cell?_spot (hcell 0 (by omega))
    subst hspot
    exact ⟨_, has_of_cells (b := b) (o := off) fun i hi => by rw [← add_plain]; exact hcell i (by omega)⟩

set_option maxRecDepth 100000 in
theorem lifted (os : Os) (started : os.Started) (H : Type) (enc : TypeId × Value → H) :
    ReturnsInHanded {} Try.checked os 5 .any (Rows.fnFieldReadsCellByNameSpec.pre6 enc Try.prog Try.f5 Rows.fnFieldReadsCellByNameRow.domain false) (Rows.fnFieldReadsCellByNameSpec.post enc Try.prog Try.f5 false true false false) := by
  refine returnsInHanded_of_change (C := Try.checked) own started (by kernel_rfl) Try.func5
    (ChangeSpec.witness6 (enc := enc) (C := Try.checked) false ⟨#[], #[.slice none 0 0, .slice none 0 0, .slice none 0 0], []⟩ 8 (by kernel_rfl) (by kernel_rfl) (by kernel_rfl) (by kernel_rfl)) ?_
  intro W base args ds gs before hval0 hW hcnd _
  have hval : ∀ (j : Nat) t v, Try.f5.params[j]? = some t → args[j]? = some v → Value.okWide Try.prog W .any base t v := hval0
  have hW' := hW
  obtain ⟨p, q, hA0, hV, rfl, hfz, hnd⟩ := hW
  have hA : DataW.TrodAll enc Try.prog W 0 (fun _ => true) true Try.f5.params.toList args.toList ds p := hA0
  rw [Try.params5] at hA hval
  obtain ⟨v0, vs0, d0, ds0, p0, q0, hargs, rfl, rfl, h0, r0⟩ := trodAll_cons hA
  obtain ⟨v1, vs1, d1, ds1, p1, q1, rfl, rfl, rfl, h1, r1⟩ := trodAll_cons r0
  obtain ⟨v2, vs2, d2, ds2, p2, q2, rfl, rfl, rfl, h2, r2⟩ := trodAll_cons r1
  obtain ⟨rfl, rfl, rfl⟩ := trodAll_nil r2
  obtain rfl : args = #[v0, v1, v2] := by cases args; simp_all
  obtain ⟨rfl, rfl⟩ := trodVars_none hV
  obtain ⟨a0, len0, cap0, rfl⟩ := okWide_slice Try.underlying22 (hval 0 22 v0 rfl rfl)
  have k0 := h0
  have lt0 : ∀ x ∈ p0, x.block < W.heap.size := by obtain ⟨m, hm⟩ := k0; exact DataW.trod_lt m _ _ _ hm
  obtain ⟨ad0, F0, w0, z0, s0⟩ : ∃ (ad : Nat → Addr) (F : Nat → ByteArray), Has W a0 len0 ad F ∧ (a0 = none → len0 = 0) ∧ ∀ i, i < len0 → (F i).size ≤ maxLen := by
    obtain ⟨fuel, hf⟩ := h0
    rcases open_strings Try.underlying22 Try.underlying9 (by kernel_rfl) hf with ⟨hcs, _⟩ | ⟨x, l, c, zs, hcs, _, hl, hm, hz, _, hcell, hwz⟩
    · simp [Value.cells] at hcs
      obtain ⟨rfl, rfl, rfl⟩ := hcs
      exact ⟨fun _ => ⟨0, 0, none⟩, fun _ => ByteArray.empty, has_none (by omega) _ _, fun _ => rfl, fun i hi => by omega⟩
    · simp [Value.cells] at hcs
      obtain ⟨rfl, rfl, rfl⟩ := hcs
      have hz' : zs.length = cap0 := by simpa using hz
      obtain ⟨ad, had⟩ := has_open (W := W) (f := fun i => zs.getD i ByteArray.empty) hl (by rw [← hz']; exact hcell)
      refine ⟨ad, _, had, (fun h => by cases h), fun i hi => hwz _ ?_⟩
      have hil : i < zs.length := by omega
      show zs.getD i ByteArray.empty ∈ zs
      rw [List.getD_eq_getElem?_getD, List.getElem?_eq_getElem hil]
      exact List.getElem_mem hil
  obtain ⟨a1, len1, cap1, rfl⟩ := okWide_slice Try.underlying22 (hval 1 22 v1 rfl rfl)
  have k1 := h1
  have lt1 : ∀ x ∈ p1, x.block < W.heap.size := by obtain ⟨m, hm⟩ := k1; exact DataW.trod_lt m _ _ _ hm
  obtain ⟨ad1, F1, w1, z1, s1⟩ : ∃ (ad : Nat → Addr) (F : Nat → ByteArray), Has W a1 len1 ad F ∧ (a1 = none → len1 = 0) ∧ ∀ i, i < len1 → (F i).size ≤ maxLen := by
    obtain ⟨fuel, hf⟩ := h1
    rcases open_strings Try.underlying22 Try.underlying9 (by kernel_rfl) hf with ⟨hcs, _⟩ | ⟨x, l, c, zs, hcs, _, hl, hm, hz, _, hcell, hwz⟩
    · simp [Value.cells] at hcs
      obtain ⟨rfl, rfl, rfl⟩ := hcs
      exact ⟨fun _ => ⟨0, 0, none⟩, fun _ => ByteArray.empty, has_none (by omega) _ _, fun _ => rfl, fun i hi => by omega⟩
    · simp [Value.cells] at hcs
      obtain ⟨rfl, rfl, rfl⟩ := hcs
      have hz' : zs.length = cap1 := by simpa using hz
      obtain ⟨ad, had⟩ := has_open (W := W) (f := fun i => zs.getD i ByteArray.empty) hl (by rw [← hz']; exact hcell)
      refine ⟨ad, _, had, (fun h => by cases h), fun i hi => hwz _ ?_⟩
      have hil : i < zs.length := by omega
      show zs.getD i ByteArray.empty ∈ zs
      rw [List.getD_eq_getElem?_getD, List.getElem?_eq_getElem hil]
      exact List.getElem_mem hil
  obtain ⟨a2, len2, cap2, rfl⟩ := okWide_slice Try.underlying22 (hval 2 22 v2 rfl rfl)
  have k2 := h2
  have lt2 : ∀ x ∈ p2, x.block < W.heap.size := by obtain ⟨m, hm⟩ := k2; exact DataW.trod_lt m _ _ _ hm
  obtain ⟨ad2, F2, w2, z2, s2⟩ : ∃ (ad : Nat → Addr) (F : Nat → ByteArray), Has W a2 len2 ad F ∧ (a2 = none → len2 = 0) ∧ ∀ i, i < len2 → (F i).size ≤ maxLen := by
    obtain ⟨fuel, hf⟩ := h2
    rcases open_strings Try.underlying22 Try.underlying9 (by kernel_rfl) hf with ⟨hcs, _⟩ | ⟨x, l, c, zs, hcs, _, hl, hm, hz, _, hcell, hwz⟩
    · simp [Value.cells] at hcs
      obtain ⟨rfl, rfl, rfl⟩ := hcs
      exact ⟨fun _ => ⟨0, 0, none⟩, fun _ => ByteArray.empty, has_none (by omega) _ _, fun _ => rfl, fun i hi => by omega⟩
    · simp [Value.cells] at hcs
      obtain ⟨rfl, rfl, rfl⟩ := hcs
      have hz' : zs.length = cap2 := by simpa using hz
      obtain ⟨ad, had⟩ := has_open (W := W) (f := fun i => zs.getD i ByteArray.empty) hl (by rw [← hz']; exact hcell)
      refine ⟨ad, _, had, (fun h => by cases h), fun i hi => hwz _ ?_⟩
      have hil : i < zs.length := by omega
      show zs.getD i ByteArray.empty ∈ zs
      rw [List.getD_eq_getElem?_getD, List.getElem?_eq_getElem hil]
      exact List.getElem_mem hil
  clear hA0 hval0
  refine (walk5 a0 len0 cap0 ad0 F0 a1 len1 cap1 ad1 F1 a2 len2 cap2 ad2 F2 W w0 w1 w2 z0 z1 z2 s0 s1 s2).mono fun e W' ⟨he, bel⟩ => ?_
  subst he
  exact ⟨_, rfl, _, _, _, [], _, [], hW', trodAll_mk1 (shut_bool Try.underlying4 _), (trodAll_cons_mk (Below.trod laidOut (by kernel_rfl) (of_decide_eq_true (by kernel_rfl)) k0 bel lt0) (trodAll_cons_mk (Below.trod laidOut (by kernel_rfl) (of_decide_eq_true (by kernel_rfl)) k1 bel lt1) (trodAll_cons_mk (Below.trod laidOut (by kernel_rfl) (of_decide_eq_true (by kernel_rfl)) k2 bel lt2) trodAll_mk0))), rfl, bel.frame _, fun h => by cases h⟩

theorem over : Rows.fnFieldReadsCellByNameRow.holds Try.pinned (OpenSpec.ofChange Rows.fnFieldReadsCellByNameSpec) :=
  OpenClaim.holds_of_wide 5 Try.f5 rfl rfl rfl rfl rfl rfl rfl ⟨rfl, rfl, rfl, rfl, rfl⟩ rfl rfl rfl rfl rfl (by kernel_rfl) Try.func5 (by kernel_rfl)
    (of_decide_eq_true (by kernel_rfl)) (by unfold Func.isWrapper; first | (rw [if_pos (by decide +kernel)]; kernel_rfl) | (rw [if_neg (by decide +kernel)]; exact ⟨rfl, rfl⟩))
    (fun os started H enc _ => lifted os started H enc)

/-- THE STATEMENT. -/
theorem proved : Rows.FnFieldReadsCellByNameSaid := over
#print axioms proved
end Go.Proofs.Qxb6001386a.fnFieldReadsCellByName
