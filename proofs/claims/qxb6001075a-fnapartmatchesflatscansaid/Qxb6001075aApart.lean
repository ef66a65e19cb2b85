import Derived.Test.Qxb6001075aDiff
namespace Go.Proofs.Qxb6001075a
open Go.RowKit Go.Sort

theorem row_later {w wx : World} {b n : Nat} {t : TypeId} {f : Nat → Value} (h : w.rowIs b t n f) (hb : Below w.heap.size w wx) : wx.rowIs b t n f := h.of_block (hb.block b h.lt)

theorem below_of_kind {W w' : World} (h : ∃ p : Regrown, w' = grow (redrawn W p.d) p.os) : Below W.heap.size W w' := by
  obtain ⟨p, rfl⟩ := h
  exact below_regrown _ _ _

/-- A contract that ends in 'Ret', met in every world that the region's walk goes through. -/
theorem ret_kind {f : FuncId} {args : Array Value} {W : World} {v : Value} (h : ∀ wx, Below W.heap.size W wx → Calls Try.prog f args wx (Ret v wx)) (d : Nat) (os : Array Obj) :
    Calls Try.prog f args (grow (redrawn W d) os) fun e w'' => e = .returned v ∧ ∃ p : Regrown, w'' = grow (redrawn W p.d) p.os :=
  Calls.regrown_of (h _ (below_regrown W d os))

theorem last20' (s e : Nat) (t : Int) (a : Option Addr) (c : Nat) (w : World) (hs : s ≤ e) (h : e ≤ 65536) :
    Calls Try.prog 20 #[.agg #[.int .u64 s, .int .u64 t, .slice a (e - s) c]] w (Ret (.int .u64 (e : Int)) w) := by
  have := last20 s t a (e - s) c w (by omega)
  rwa [show s + (e - s) = e by omega] at this

theorem after21' (s e n y : Nat) (t : Int) (b : Nat) (T : Nat → Int) (C : Nat → ByteArray) (hs : s ≤ y) (hy : y < e) (he : e ≤ n) (hn : n ≤ 65536) :
    ∃ tv : Int, ∀ w : World, w.rowIs b 41 (n * 3) (entCell T C) → Calls Try.prog 21 #[.agg #[.int .u64 s, .int .u64 t, .slice (some ⟨b, s * 3, none⟩) (e - s) (n - s)], .int .u64 y] w (Ret (.agg #[.int .u64 y, .int .u64 tv, .slice (some ⟨b, y * 3, none⟩) (e - y) (n - y)]) w) := by
  refine ⟨if y - s = 0 then t else T (s + (y - s) - 1), fun w hr => ?_⟩
  have := after21 s t b (e - s) (n - s) (y - s) n T C (y : Int) w hr (by omega) (by omega) (by omega) (by omega) (by omega)
  rwa [show s * 3 + (y - s) * 3 = y * 3 by omega, show e - s - (y - s) = e - y by omega, show n - s - (y - s) = n - y by omega] at this

theorem ent_cells2 {w : World} {b N : Nat} {T : Nat → Int} {C : Nat → ByteArray} (hr : w.rowIs b 41 (N * 3) (entCell T C)) {y k : Nat} (hk : y + k < N) :
    w.cell? ⟨b, y * 3 + k * 3, none⟩ = some (.int .u64 (T (y + k))) ∧ w.cell? ⟨b, y * 3 + k * 3 + 1, none⟩ = some (.string (C (y + k))) ∧ w.cell? ⟨b, y * 3 + k * 3 + 2, none⟩ = some (.pointer none) := by
  have e : y * 3 + k * 3 = (y + k) * 3 := by omega
  rw [e]
  exact ent_cells hr hk

theorem ret_u64 {a : Int} {r : Nat} (h : a = (r : Int)) : Ending.returned (.int .u64 a) = .returned (.int .u64 (r : Int)) := by rw [h]

theorem RunsAt.next {w : World} {R b n m : Nat} {E : Nat → Nat} (h : RunsAt w R b n m E) {p x : Nat} (hp : p < m) (hE : E (p + 1) < x) (hx : x ≤ n) : p + 1 < m := by
  rcases Nat.lt_or_ge (p + 1) m with h1 | h1
  · exact h1
  · have e : p + 1 = m := by omega
    rw [e, h.2.1] at hE
    omega

theorem below_on {w1 wr w2 : World} (h : Below w1.heap.size w1 wr) (h2 : Below wr.heap.size wr w2) : Below w1.heap.size w1 w2 := h.trans (h2.mono h.size)

set_option maxHeartbeats 2000000 in
set_option maxRecDepth 100000 in
theorem apart17 (R b n m cap : Nat) (E : Nat → Nat) (T : Nat → Int) (C : Nat → ByteArray) (R' b' n' m' cap' : Nat) (E' : Nat → Nat) (T' : Nat → Int) (C' : Nat → ByteArray) (w : World)
    (hr : w.rowIs b 41 (n * 3) (entCell T C)) (hq : RunsAt w R b n m E) (l : n ≤ 65536) (hm : 0 < m) (lm : m ≤ 65537)
    (hr' : w.rowIs b' 41 (n' * 3) (entCell T' C')) (hq' : RunsAt w R' b' n' m' E') (l' : n' ≤ 65536) (hm' : 0 < m') (lm' : m' ≤ 65537) :
    Calls Try.prog 17 #[.agg #[.slice (some ⟨R, 0, none⟩) m cap], .agg #[.slice (some ⟨R', 0, none⟩) m' cap']] w (DiffOut T C T' C' (min n n') w) := by
  have hne := neq41
  obtain ⟨L, hL⟩ : ∃ L, L = min n n' := ⟨_, rfl⟩
  have hL1 : L ≤ n := by omega
  have hL2 : L ≤ n' := by omega
  have hmin : (if n' < n then (n' : Int) else (n : Int)) = (L : Int) := by split <;> omega
  rw [← hL]
  have HL : Hid (L = min n n') := hL
  clear hL
  have hb0 : Below w.heap.size w ((w.alloc (.cells #[.slice (some ⟨R, 0, none⟩) m cap] 34)).alloc (.cells #[.slice (some ⟨R', 0, none⟩) m' cap'] 34)) := ((Below.refl _ _).alloc (Nat.le_refl _) _).alloc (by simp) _
  have g0 : ((w.alloc (.cells #[.slice (some ⟨R, 0, none⟩) m cap] 34)).alloc (.cells #[.slice (some ⟨R', 0, none⟩) m' cap'] 34)).cell? ⟨w.heap.size, 0, none⟩ = some (.slice (some ⟨R, 0, none⟩) m cap) := by simp
  have g1 : ((w.alloc (.cells #[.slice (some ⟨R, 0, none⟩) m cap] 34)).alloc (.cells #[.slice (some ⟨R', 0, none⟩) m' cap'] 34)).cell? ⟨w.heap.size + 1, 0, none⟩ = some (.slice (some ⟨R', 0, none⟩) m' cap') := by simp
  replace hr := row_later hr hb0
  replace hr' := row_later hr' hb0
  replace hq := hq.later hb0
  replace hq' := hq'.later hb0
  have q0 := cell_regrown g0
  have q1 := cell_regrown g1
  have cA := ret_kind (fun wx hx => last19 R b n m cap E wx (hq.later hx) l hm lm)
  have cB := ret_kind (fun wx hx => last19 R' b' n' m' cap' E' wx (hq'.later hx) l' hm' lm')
  go_enter Try.func17, Try.ntmps17
  go_wp2
  refine wp_region_quiet_below (by kernel_rfl) (by kernel_rfl) ?_
  repeat (quiet_step (first | (go_at_call_of 19 (Value.agg #[.slice (some ⟨R, 0, none⟩) m cap]); exact cA _ _) | (go_at_call_of 19 (Value.agg #[.slice (some ⟨R', 0, none⟩) m' cap']); exact cB _ _)))
  refine wpQuiet_nil ?_
  intro w1 hw1
  have hb1 := below_of_kind hw1
  clear hw1 q0 q1 cA cB hmin
  replace hr := row_later hr hb1
  replace hr' := row_later hr' hb1
  replace hq := hq.later hb1
  replace hq' := hq'.later hb1
  replace g0 := cell_later hb1 g0
  replace g1 := cell_later hb1 g1
  have hbw : Below w.heap.size w w1 := hb0.trans (hb1.mono hb0.size)
  have HF : Hid (Below w.heap.size w w1) := hbw
  have hsz : w.heap.size + 1 < w1.heap.size := by have := hb1.size; simp at this; omega
  clear hb0 hb1 hbw
  go_wp2
  go_loopw [5, 6, 8] (fun vi vj vx wr => ∃ i j x : Nat, vi = .int .i64 i ∧ vj = .int .i64 j ∧ vx = .int .u64 x ∧ i < m ∧ j < m' ∧ 1 ≤ x ∧ x ≤ L + 1 ∧ E i < x ∧ E' j < x ∧ Hid (∀ k, k < x - 1 → entNe (T k) (C k) (T' k) (C' k) = false) ∧ Below w1.heap.size w1 wr) (fun _ _ vx _ => L + 1 - (intOf vx).toNat)
  case atStart => exact ⟨0, 0, 1, rfl, rfl, rfl, hm, hm', by omega, by omega, by rw [hq.1]; omega, by rw [hq'.1]; omega, fun k hk => absurd hk (Nat.not_lt_zero _), Below.refl _ _⟩
  case round =>
    obtain ⟨i, j, x, rfl, rfl, rfl, hi, hj, hx1, hx2, hix, hjx, hall, hb⟩ := hrel
    by_cases hxl : x ≤ L
    · go_wp2
      go_loopw [5] (fun vi wr => ∃ p : Nat, vi = .int .i64 p ∧ p < m ∧ E p < x ∧ Below w1.heap.size w1 wr) (fun vi _ => m - (intOf vi).toNat)
      case atStart => exact ⟨i, rfl, hi, hix, hb⟩
      case round =>
        clear hix hi hb
        obtain ⟨p, rfl, hp, hpx, hb⟩ := hrel
        have k0 := cell_later hb g0
        obtain ⟨t, o, c0, c1, c2, ho⟩ := hq.2.2.2 p hp
        have hE := hq.2.2.1 p hp
        have hEn := hq.mono (p + 1) (by omega)
        have d0 := cell_later hb c0
        have d1 := cell_later hb c1
        have d2 := cell_later hb c2
        have i1 : (p : Int) < m := by omega
        by_cases hle : E (p + 1) < x
        · have hp1 := hq.next hp hle (by omega)
          clear c0 c1 c2
          go_wp2_with (go_at_call 20; refine (last20' _ _ _ _ _ _ hE (by omega)).mono ?_; rintro e w2 ⟨rfl, hb2⟩)
          go_roundw
          case rel => exact ⟨p + 1, by go_num, hp1, hle, below_on hb hb2⟩
          case measure => simp [intOf]; omega
        · obtain rfl : o = E p * 3 := ho (by omega)
          clear ho
          go_wp2_with (go_at_call 20; refine (last20' _ _ _ _ _ _ hE (by omega)).mono ?_; rintro e w2 ⟨rfl, hb2⟩)
          replace hb := below_on hb hb2
          clear hb2 d0 d1 d2 k0
          go_loopw [6] (fun vi wr => ∃ q : Nat, vi = .int .i64 q ∧ q < m' ∧ E' q < x ∧ Below w1.heap.size w1 wr) (fun vi _ => m' - (intOf vi).toNat)
          case atStart => exact ⟨j, rfl, hj, hjx, hb⟩
          case round =>
            clear hjx hj hb
            obtain ⟨q, rfl, hqq, hqx, hb⟩ := hrel
            have k1 := cell_later hb g1
            obtain ⟨t', o', c0', c1', c2', ho'⟩ := hq'.2.2.2 q hqq
            have hE' := hq'.2.2.1 q hqq
            have hEn' := hq'.mono (q + 1) (by omega)
            have d0 := cell_later hb c0'
            have d1 := cell_later hb c1'
            have d2 := cell_later hb c2'
            have i2 : (q : Int) < m' := by omega
            by_cases hle' : E' (q + 1) < x
            · have hp1 := hq'.next hqq hle' (by omega)
              clear c0' c1' c2' c0 c1 c2
              go_wp2_with (go_at_call 20; refine (last20' _ _ _ _ _ _ hE' (by omega)).mono ?_; rintro e w2 ⟨rfl, hb2⟩)
              go_roundw
              case rel => exact ⟨q + 1, by go_num, hp1, hle', below_on hb hb2⟩
              case measure => simp [intOf]; omega
            · obtain rfl : o' = E' q * 3 := ho' (by omega)
              clear ho'
              go_wp2_with (go_at_call 20; refine (last20' _ _ _ _ _ _ hE' (by omega)).mono ?_; rintro e w2 ⟨rfl, hb2⟩)
              replace hb := below_on hb hb2
              clear hb2 d0 d1 d2 k1
              obtain ⟨D, hD⟩ : ∃ D, D = min (E (p + 1)) (E' (q + 1)) := ⟨_, rfl⟩
              have hD1 : D ≤ E (p + 1) := by omega
              have hD2 : D ≤ E' (q + 1) := by omega
              have hD3 : x ≤ D := by omega
              have hDL : D ≤ L := by rw [HL.out]; omega
              have hmin : (if E' (q + 1) < E (p + 1) then (E' (q + 1) : Int) else (E (p + 1) : Int)) = (D : Int) := by split <;> omega
              clear hD
              have q0 := cell_regrown (cell_later hb g0)
              have q1 := cell_regrown (cell_later hb g1)
              have r0 := cell_regrown (cell_later hb c0)
              have r1 := cell_regrown (cell_later hb c1)
              have r2 := cell_regrown (cell_later hb c2)
              have r0' := cell_regrown (cell_later hb c0')
              have r1' := cell_regrown (cell_later hb c1')
              have r2' := cell_regrown (cell_later hb c2')
              have cA := fun W => ret_kind (W := W) (fun wx _ => last20' (E p) (E (p + 1)) t (some ⟨b, E p * 3, none⟩) (n - E p) wx hE (by omega))
              have cB := fun W => ret_kind (W := W) (fun wx _ => last20' (E' q) (E' (q + 1)) t' (some ⟨b', E' q * 3, none⟩) (n' - E' q) wx hE' (by omega))
              refine wp_region_quiet_below (by kernel_rfl) (by kernel_rfl) ?_
              repeat (quiet_step (first | (go_at_call_of 20 b; exact cA _ _ _) | (go_at_call_of 20 b'; exact cB _ _ _)))
              refine wpQuiet_nil ?_
              intro w4 hw4
              have hb4 := below_on hb (below_of_kind hw4)
              clear hw4 hb hmin q0 q1 r0 r1 r2 r0' r1' r2' cA cB
              go_wp2
              obtain ⟨y, hy⟩ : ∃ y : Nat, y = x - 1 := ⟨_, rfl⟩
              have hxw : IntKind.u64.wrap ((x : Int) - 1) = (y : Int) := by rw [wrap_u64_in _ (by omega) (by omega)]; omega
              obtain ⟨tA, cA1⟩ := after21' (E p) (E (p + 1)) n y t b T C (by omega) (by omega) hEn l
              obtain ⟨tB, cB1⟩ := after21' (E' q) (E' (q + 1)) n' y t' b' T' C' (by omega) (by omega) hEn' l'
              obtain ⟨K, hK⟩ : ∃ K : Nat, D = y + K := ⟨D - y, by omega⟩
              have cA2 := fun wx => through22 y tA (some ⟨b, y * 3, none⟩) (E (p + 1) - y) (n - y) K D wx (by omega) (by omega) (by omega) (by omega)
              have cB2 := fun wx => through22 y tB (some ⟨b', y * 3, none⟩) (E' (q + 1) - y) (n' - y) K D wx (by omega) (by omega) (by omega) (by omega)
              have hKn : y + K ≤ n := by omega
              have hKn' : y + K ≤ n' := by omega
              have HK : Hid (D = y + K ∧ y + 1 = x) := ⟨hK, by omega⟩
              clear hK
              have cA3 := fun wx => entries23 y tA (some ⟨b, y * 3, none⟩) K K wx
              have cB3 := fun wx => entries23 y tB (some ⟨b', y * 3, none⟩) K K wx
              have eA1 := ret_kind (W := w4) (fun wx hx => cA1 wx (row_later (row_later hr hb4) hx))
              have eB1 := ret_kind (W := w4) (fun wx hx => cB1 wx (row_later (row_later hr' hb4) hx))
              have eA2 := ret_kind (W := w4) (fun wx _ => cA2 wx)
              have eB2 := ret_kind (W := w4) (fun wx _ => cB2 wx)
              have eA3 := ret_kind (W := w4) (fun wx _ => cA3 wx)
              have eB3 := ret_kind (W := w4) (fun wx _ => cB3 wx)
              clear cA1 cB1 cA2 cB2 cA3 cB3
              clear hy
              have q0 := cell_regrown (cell_later hb4 g0)
              have q1 := cell_regrown (cell_later hb4 g1)
              have r0 := cell_regrown (cell_later hb4 c0)
              have r1 := cell_regrown (cell_later hb4 c1)
              have r2 := cell_regrown (cell_later hb4 c2)
              have r0' := cell_regrown (cell_later hb4 c0')
              have r1' := cell_regrown (cell_later hb4 c1')
              have r2' := cell_regrown (cell_later hb4 c2')
              refine wp_region_quiet_below (by kernel_rfl) (by kernel_rfl) ?_
              repeat (quiet_step (first | (go_at_call_of 21 b; exact eA1 _ _) | (go_at_call_of 21 b'; exact eB1 _ _) | (go_at_call_of 22 b; exact eA2 _ _) | (go_at_call_of 22 b'; exact eB2 _ _) | (go_at_call_of 23 b; exact eA3 _ _) | (go_at_call_of 23 b'; exact eB3 _ _)))
              refine wpQuiet_nil ?_
              intro w5 hw5
              have hb5 := below_on hb4 (below_of_kind hw5)
              clear hw5 hb4 eA1 eA2 eA3 eB1 eB2 eB3 q0 q1 r0 r1 r2 r0' r1' r2' hxw
              clear c0 c1 c2 c0' c1' c2'
              go_wp2
              go_loopw [78] (fun vk wr => ∃ k : Nat, vk = .int .i64 k ∧ k ≤ K ∧ Hid (∀ j, j < y + k → entNe (T j) (C j) (T' j) (C' j) = false) ∧ Below w1.heap.size w1 wr) (fun vk _ => K - (intOf vk).toNat)
              case atStart =>
                obtain ⟨e1, e2⟩ := HK.out
                exact ⟨0, rfl, Nat.zero_le _, fun k hk => hall.out k (by omega), hb5⟩
              case round =>
                clear hb5
                obtain ⟨k, rfl, hk, hal, hb⟩ := hrel
                by_cases hkK : k < K
                · obtain ⟨c0, c1, c2⟩ := ent_cells2 (row_later hr hb) (y := y) (k := k) (by omega)
                  obtain ⟨d0, d1, d2⟩ := ent_cells2 (row_later hr' hb) (y := y) (k := k) (by omega)
                  have i3 : (k : Int) < K := by omega
                  by_cases hd : entNe (T (y + k)) (C (y + k)) (T' (y + k)) (C' (y + k)) = true
                  · go_wp2
                    go_quiet (fail)
                    go_wp2
                    go_ret
                    obtain ⟨e1, e2⟩ := HK.out
                    exact ⟨x + k, ret_u64 (by omega), .inr ⟨y + k, by omega, by omega, hd, hal.out⟩, HF.out.trans ((below_drewN hb _).mono (by omega))⟩
                  · have hd' : entNe (T (y + k)) (C (y + k)) (T' (y + k)) (C' (y + k)) = false := by simpa using hd
                    clear hd
                    go_wp2
                    go_quiet (fail)
                    go_wp2
                    go_roundw
                    case rel => exact ⟨k + 1, by go_num, by omega, fd_step hal hd', below_drewN hb _⟩
                    case measure => simp [intOf]; omega
                · go_wp2
                  go_roundw
                  case rel =>
                    obtain ⟨e1, e2⟩ := HK.out
                    exact ⟨p, q, D + 1, rfl, rfl, by go_num, hp, hqq, by omega, by omega, by omega, by omega, fun k' hk' => hal.out k' (by omega), hb⟩
                  case measure => simp [intOf]; omega
    · go_wp2
      go_ret
      exact ⟨0, rfl, .inl ⟨rfl, fun k hk => hall.out k (by omega)⟩, HF.out.trans (hb.mono (by omega))⟩
end Go.Proofs.Qxb6001075a
