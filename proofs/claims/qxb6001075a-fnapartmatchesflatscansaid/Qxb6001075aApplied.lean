import Derived.Test.Qxb6001075aRun
namespace Go.Proofs.Qxb6001075a
open Go.RowKit

theorem info43 : (Try.prog.info? 43).map (fun i => (i.zero, i.size, i.bytes)) = some (some (.agg #[.int .u64 0, .int .u64 0, .slice none 0 0]), 3, 40) := by kernel_rfl

set_option maxHeartbeats 400000 in
theorem mk16 (a : Option Addr) (n c : Nat) (w : World) :
    Calls Try.prog 16 #[.slice a n c] w fun e w' => e = .returned (.agg #[.slice a n c]) ∧ w' = w.alloc (.cells #[.slice a n c] 34) := by
  go_enter Try.func16, Try.ntmps16
  go_wp2
  exact bodyPost_ret (v := .agg #[.slice a n c]) (by simp [results, Try.results16, go_sem]) rfl ⟨rfl, rfl⟩

/-- The cells 'xs' are m runs of n entries at block b, run i from 'E i' to 'E (i + 1)'. -/
def Chain (b n m p : Nat) (E : Nat → Nat) (xs : List Value) : Prop :=
  E 0 = 0 ∧ E m = p ∧ xs.length = m * 3 ∧ (∀ i, i < m → E i ≤ E (i + 1)) ∧
  ∀ i, i < m → ∃ t o, xs[i * 3]? = some (.int .u64 (E i)) ∧ xs[i * 3 + 1]? = some (.int .u64 t) ∧ xs[i * 3 + 2]? = some (.slice (some ⟨b, o, none⟩) (E (i + 1) - E i) (n - E i)) ∧ (E i < E (i + 1) → o = E i * 3)

theorem Chain.start (b n : Nat) : Chain b n 0 0 (fun _ => 0) [] := ⟨rfl, rfl, rfl, fun _ h => absurd h (Nat.not_lt_zero _), fun _ h => absurd h (Nat.not_lt_zero _)⟩

theorem Chain.step {b n m p c : Nat} {E : Nat → Nat} {xs : List Value} (h : Chain b n m p E xs) (hpc : p ≤ c) (t : Int) (o : Nat) (ho : p < c → o = p * 3) :
    Chain b n (m + 1) c (fun i => if i = m + 1 then c else E i) (xs ++ [.int .u64 p, .int .u64 t, .slice (some ⟨b, o, none⟩) (c - p) (n - p)]) := by
  obtain ⟨h0, hm, hl, hmono, hc⟩ := h
  refine ⟨by simp [h0], by simp, by simp [hl]; omega, fun i hi => ?_, fun i hi => ?_⟩
  · by_cases e : i = m
    · subst e; simp [hm, hpc]
    · have := hmono i (by omega)
      simp [e, show ¬ i = m + 1 by omega, this]
  · by_cases e : i = m
    · subst e
      refine ⟨t, o, ?_, ?_, ?_, ?_⟩
      · simp [hl, hm]
      · simp [hl]
      · simp [hl, hm]
      · simpa [hm] using ho
    · obtain ⟨t', o', c0, c1, c2, ho'⟩ := hc i (by omega)
      refine ⟨t', o', ?_, ?_, ?_, ?_⟩
      · rw [List.getElem?_append_left (by omega), c0]; simp [show ¬ i = m + 1 by omega]
      · rw [List.getElem?_append_left (by omega), c1]
      · rw [List.getElem?_append_left (by omega), c2]; simp [show ¬ i = m + 1 by omega, e]
      · simpa [show ¬ i = m + 1 by omega, e] using ho'

/-- m runs lie in block R. -/
def RunsAt (w : World) (R b n m : Nat) (E : Nat → Nat) : Prop :=
  E 0 = 0 ∧ E m = n ∧ (∀ i, i < m → E i ≤ E (i + 1)) ∧
  ∀ i, i < m → ∃ t o, w.cell? ⟨R, i * 3, none⟩ = some (.int .u64 (E i)) ∧ w.cell? ⟨R, i * 3 + 1, none⟩ = some (.int .u64 t) ∧ w.cell? ⟨R, i * 3 + 2, none⟩ = some (.slice (some ⟨b, o, none⟩) (E (i + 1) - E i) (n - E i)) ∧ (E i < E (i + 1) → o = E i * 3)

theorem RunsAt.later {w w' : World} {R b n m : Nat} {E : Nat → Nat} (h : RunsAt w R b n m E) (hb : Below w.heap.size w w') : RunsAt w' R b n m E := by
  obtain ⟨h0, hm, hmono, hc⟩ := h
  refine ⟨h0, hm, hmono, fun i hi => ?_⟩
  obtain ⟨t, o, c0, c1, c2, ho⟩ := hc i hi
  exact ⟨t, o, cell_later hb c0, cell_later hb c1, cell_later hb c2, ho⟩

theorem RunsAt.setOther {w : World} {R b n m : Nat} {E : Nat → Nat} (h : RunsAt w R b n m E) {p : Addr} (hp : R ≠ p.block) (v : Value) : RunsAt (w.setCell p v) R b n m E := by
  obtain ⟨h0, hm, hmono, hc⟩ := h
  have hk : ∀ j, (w.setCell p v).cell? ⟨R, j, none⟩ = w.cell? ⟨R, j, none⟩ := fun j => World.cell?_of_block (w := w) (Below.heap_setCell w p v R hp)
  refine ⟨h0, hm, hmono, fun i hi => ?_⟩
  obtain ⟨t, o, c0, c1, c2, ho⟩ := hc i hi
  exact ⟨t, o, (hk _).trans c0, (hk _).trans c1, (hk _).trans c2, ho⟩

theorem Chain.runs {w : World} {base R b n m cap : Nat} {E : Nat → Nat} {xs : List Value} (h : Chain b n m n E xs) (hown : w.ownsRow base 43 3 (.slice (some ⟨R, 0, none⟩) m cap) m xs) : RunsAt w R b n m E := by
  obtain ⟨h0, hm, hl, hmono, hc⟩ := h
  refine ⟨h0, hm, hmono, fun i hi => ?_⟩
  obtain ⟨t, o, c0, c1, c2, ho⟩ := hc i hi
  exact ⟨t, o, (hown.cellAt _ (by omega)).trans c0, (hown.cellAt _ (by omega)).trans c1, (hown.cellAt _ (by omega)).trans c2, ho⟩

theorem ownsRow_below {w w' : World} {base e size R n cap : Nat} {xs : List Value} (h : w.ownsRow base e size (.slice (some ⟨R, 0, none⟩) n cap) n xs) (hb : Below w.heap.size w w') : w'.ownsRow base e size (.slice (some ⟨R, 0, none⟩) n cap) n xs := by
  obtain ⟨h1, h2⟩ := h
  refine ⟨h1, ?_⟩
  rcases h2 with h2 | ⟨g, cp, cur, hv, hg, hh, r⟩
  · exact .inl h2
  · have hlt : g < w.heap.size := by
      obtain ⟨hlt, _⟩ := Array.getElem?_eq_some_iff.1 hh
      exact hlt
    exact .inr ⟨g, cp, cur, hv, hg, (hb.block g hlt).trans hh, r⟩

def AppliedOut (w : World) (b n : Nat) (e : Ending) (w' : World) : Prop :=
  ∃ R m cap E, e = .returned (.agg #[.slice (some ⟨R, 0, none⟩) m cap]) ∧ 0 < m ∧ m ≤ 65537 ∧ RunsAt w' R b n m E ∧ Below w.heap.size w w'

theorem new3 (w : World) (x y z : Value) (t : TypeId) : ∀ j u, [x, y, z][j]? = some u → (w.alloc (.cells #[x, y, z] t)).cell? (Addr.add ⟨w.heap.size, 0, none⟩ j) = some u := by
  intro j u hj
  match j, hj with
  | 0, hj => simp at hj; subst hj; simp [Addr.add]
  | 1, hj => simp at hj; subst hj; simp [Addr.add]
  | 2, hj => simp at hj; subst hj; simp [Addr.add]

theorem log_oneCell (q t : Int) (a : Option Addr) (n c : Nat) : ∀ u ∈ [Value.int .u64 q, .int .u64 t, .slice a n c], u.oneCell' = true := by
  intro u hu
  simp at hu
  rcases hu with rfl | rfl | rfl <;> rfl

theorem AppInv_done {w wr w1 w2 : World} {b n nc m p : Nat} {E : Nat → Nat} {xs : List Value} {t : Int} {o : Nat} (hch : Chain b n m p E xs) (hbr : Below w.heap.size w wr)
    (hres : wr.heap[w.heap.size]? = some (.cells #[.slice none 0 0] 34 (0, 0))) (hpc : p ≤ n) (ho : p < n → o = p * 3) (hb1 : Below wr.heap.size wr w1) {blk : Obj}
    (hown2 : w2.ownsRow (w.heap.size + 1) 43 3 (.slice (some ⟨w.heap.size + 1, 0, none⟩) (m + 1) (nc + 1)) (m + 1) (xs ++ [.int .u64 p, .int .u64 t, .slice (some ⟨b, o, none⟩) (n - p) (n - p)]))
    (hgrow : (w1.alloc blk).grownBy w2 (some (w.heap.size + 1))) :
    w2.cell? ⟨w.heap.size, 0, none⟩ = some (.slice none 0 0) ∧ w2.frozen? ⟨w.heap.size, 0, none⟩ = false ∧ w.heap.size < w2.heap.size ∧ Below w.heap.size w w2 ∧ RunsAt w2 (w.heap.size + 1) b n (m + 1) (fun i => if i = m + 1 then n else E i) := by
  have hlt : w.heap.size < wr.heap.size := by
    obtain ⟨hlt, _⟩ := Array.getElem?_eq_some_iff.1 hres
    exact hlt
  have hs1 := hb1.size
  have hs2 := hgrow.size
  simp at hs2
  have hblk : w2.heap[w.heap.size]? = some (.cells #[.slice none 0 0] 34 (0, 0)) := by
    rw [hgrow.block _ (by simp; omega) (by simp), Below.heap_alloc _ _ _ (by omega), hb1.block _ hlt]
    exact hres
  refine ⟨by simp [World.cell?, hblk], by simp [World.frozen?, hblk], by omega, (((hbr.trans (hb1.mono (by omega))).alloc (by omega) _).grown hgrow (by simp; omega) (by simp)), ?_⟩
  exact (hch.step hpc t o ho).runs hown2

/-- The state of the loop: m runs made, the last cut at p. -/
def AppInv (w : World) (b n nc m p : Nat) (wr : World) : Prop :=
  ∃ E xs, Chain b n m p E xs ∧ wr.ownsRow (w.heap.size + 1) 43 3 (.slice (some ⟨w.heap.size + 1, 0, none⟩) m (nc + 1)) m xs ∧ wr.heap[w.heap.size]? = some (.cells #[.slice none 0 0] 34 (0, 0)) ∧ Below w.heap.size w wr

theorem AppInv.start {w w1 : World} {b n nc : Nat} (hown : w1.ownsRow (w.heap.size + 1) 43 3 (.slice (some ⟨w.heap.size + 1, 0, none⟩) 0 (nc + 1)) 0 [])
    (hgrow : (w.alloc (.cells #[.slice none 0 0] 34)).grownBy w1 none) : AppInv w b n nc 0 0 w1 := by
  refine ⟨_, _, Chain.start b n, hown, ?_, ((Below.refl _ _).alloc (Nat.le_refl _) _).grown hgrow (by simp) (by simp)⟩
  rw [hgrow.block _ (by simp) (by simp)]
  exact Deep.blk_alloc_new _ _

theorem AppInv.step {w wr w1 w2 : World} {b n nc m p c : Nat} {t : Int} {o : Nat} {E : Nat → Nat} {xs : List Value} (hch : Chain b n m p E xs) (hbr : Below w.heap.size w wr)
    (hres : wr.heap[w.heap.size]? = some (.cells #[.slice none 0 0] 34 (0, 0))) (hpc : p ≤ c) (ho : p < c → o = p * 3) (hb1 : Below wr.heap.size wr w1) {blk : Obj}
    (hown2 : w2.ownsRow (w.heap.size + 1) 43 3 (.slice (some ⟨w.heap.size + 1, 0, none⟩) (m + 1) (nc + 1)) (m + 1) (xs ++ [.int .u64 p, .int .u64 t, .slice (some ⟨b, o, none⟩) (c - p) (n - p)]))
    (hgrow : (w1.alloc blk).grownBy w2 (some (w.heap.size + 1))) : AppInv w b n nc (m + 1) c w2 := by
  have hlt : w.heap.size < wr.heap.size := by
    obtain ⟨hlt, _⟩ := Array.getElem?_eq_some_iff.1 hres
    exact hlt
  have hs1 := hb1.size
  refine ⟨_, _, hch.step hpc t o ho, hown2, ?_, ?_⟩
  · rw [hgrow.block _ (by simp; omega) (by simp), Below.heap_alloc _ _ _ (by omega), hb1.block _ hlt]
    exact hres
  · exact (((hbr.trans (hb1.mono (by omega))).alloc (by omega) _).grown hgrow (by simp; omega) (by simp))

set_option maxHeartbeats 1000000 in
theorem applied11 (b n : Nat) (T : Nat → Int) (C : Nat → ByteArray) (a : Option Addr) (nc cc : Nat) (f : Nat → Int) (w : World) (hr : w.rowIs b 41 (n * 3) (entCell T C)) (l : n ≤ 65536) (h : Has w a nc (fun i => .int .i64 (f i))) (lc : nc ≤ 65536) :
    Calls Try.prog 11 #[.slice (some ⟨b, 0, none⟩) n n, .slice a nc cc] w (AppliedOut w b n) := by
  obtain ⟨i0, hi, hz0, hz1, hz2⟩ := info_parts info43
  have hbw := hr.lt
  rcases h with h | ⟨b', o', rfl, hc⟩
  all_goals
    go_enter Try.func11, Try.ntmps11
    go_wp2_with (at_make; refine wpList_make_own _ rfl _ _ 32 rfl (w.heap.size + 1) 43 i0 _ 3 Try.underlying32 hi hz0 hz1 _ _ _ (nc + 1) rfl rfl (by omega) (by rw [hz2]; omega) (by unfold maxLen; omega) (by simp) ?_; intro w1 hown hgrow)
    have hinv := AppInv.start (b := b) (n := n) (nc := nc) (by simpa using hown) hgrow
    clear hown hgrow
    go_loopw [6, 7, 8] (fun v p i wr => ∃ k m q : Nat, k ≤ nc ∧ m ≤ k ∧ q ≤ n ∧ v = .slice (some ⟨w.heap.size + 1, 0, none⟩) m (nc + 1) ∧ p = .int .i64 q ∧ i = .int .i64 k ∧ AppInv w b n nc m q wr) (fun _ _ i _ => nc - (intOf i).toNat)
    case atStart => exact ⟨0, 0, 0, Nat.zero_le _, Nat.le_refl _, Nat.zero_le _, rfl, rfl, rfl, hinv⟩
    case round =>
      obtain ⟨k, m, q, hk, hm, hq, rfl, rfl, rfl, hI⟩ := hrel
      clear hinv
      have HI : Hid (AppInv w b n nc m q wr) := hI
      obtain ⟨E, xs, hch, hown, hres, hbr⟩ := hI
      by_cases hlt : k < nc
      · first
        | (exfalso; omega)
        | have hck := cell_later hbr (hc k hlt)
          by_cases t1 : f k < q
          · go_wp2
            go_roundw
            case rel => exact ⟨k + 1, m, q, by omega, by omega, by omega, rfl, rfl, by go_num, HI.out⟩
            case measure => simp [intOf]; omega
          · by_cases t2 : (n : Int) < f k
            · go_wp2
              go_roundw
              case rel => exact ⟨k + 1, m, q, by omega, by omega, by omega, rfl, rfl, by go_num, HI.out⟩
              case measure => simp [intOf]; omega
            · obtain ⟨c, hfc⟩ : ∃ c : Nat, f k = c := ⟨(f k).toNat, by omega⟩
              rw [hfc] at hck t1 t2
              clear hfc HI
              have hrw : wr.rowIs b 41 (n * 3) (entCell T C) := hr.of_block (hbr.block b hbw)
              go_wp2_with (first | (go_at_call 15; refine (run15 b n q c T C _ hrw l (by omega) (by omega)).mono ?_; rintro e w1 ⟨t, o, rfl, ho, hb1⟩; have hown1 := ownsRow_below hown hb1) | (at_builtin; refine wpList_append_fits _ rfl _ _ 32 rfl (w.heap.size + 1) 43 i0 3 Try.underlying32 hi hz1 (w.heap.size + 1) m (nc + 1) xs rfl (hown1.alloc _) ⟨w1.heap.size, 0, none⟩ 1 1 [.int .u64 q, .int .u64 t, .slice (some ⟨b, o, none⟩) (c - q) (n - q)] rfl rfl (new3 _ _ _ _ _) (log_oneCell _ _ _ _ _) (by omega) ?_; intro w2 hown2 hgrow2; have hI2 := AppInv.step hch hbr hres (by omega) ho hb1 hown2 hgrow2; clear hown2 hgrow2 hown1 hb1 ho hown hch hres))
              go_roundw
              case rel => exact ⟨k + 1, m + 1, c, by omega, by omega, by omega, rfl, rfl, by go_num, hI2⟩
              case measure => simp [intOf]; omega
      · have hrw : wr.rowIs b 41 (n * 3) (entCell T C) := hr.of_block (hbr.block b hbw)
        clear HI
        go_wp2_with (first | (go_at_call 15; refine (run15 b n q n T C _ hrw l (by omega) (by omega)).mono ?_; rintro e w1 ⟨t, o, rfl, ho, hb1⟩; have hown1 := ownsRow_below hown hb1) | (at_builtin; refine wpList_append_fits _ rfl _ _ 32 rfl (w.heap.size + 1) 43 i0 3 Try.underlying32 hi hz1 (w.heap.size + 1) m (nc + 1) xs rfl (hown1.alloc _) ⟨w1.heap.size, 0, none⟩ 1 1 [.int .u64 q, .int .u64 t, .slice (some ⟨b, o, none⟩) (n - q) (n - q)] rfl rfl (new3 _ _ _ _ _) (log_oneCell _ _ _ _ _) (by omega) ?_; intro w2 hown2 hgrow2; obtain ⟨hc2, hf2, hs2, hb2, hrun2⟩ := AppInv_done hch hbr hres (by omega) ho hb1 hown2 hgrow2; clear hown2 hgrow2 hown1 hb1 ho hown hch hres) | (go_at_call 16; refine (mk16 _ _ _ _).mono ?_; rintro e w' ⟨rfl, rfl⟩))
        exact bodyPost_ret (v := .agg #[.slice (some ⟨w.heap.size + 1, 0, none⟩) (m + 1) (nc + 1)]) (by simp [results, Try.results11, go_sem, hs2, hc2]) rfl ⟨_, _, _, _, rfl, by omega, by omega, (hrun2.setOther (by simp) _).later ((Below.refl _ _).alloc (Nat.le_refl _) _), (hb2.setCell (Nat.le_refl _) _).alloc (by simp; omega) _⟩
end Go.Proofs.Qxb6001075a
