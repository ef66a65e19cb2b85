import Derived.Test.Qxb6001386aHeader
import Derived.Test.Qxb6001386aBytes
namespace Go.Proofs.Qxb6001386a
open Go.RowKit Go.Maps Go.WideMaps

theorem St.later {w wx : World} {b n : Nat} {L : List (List UInt8)} {val : ByteArray → Int} (h : St w b n L val) (hb : Below w.heap.size w wx) : St wx b n L val := by
  obtain ⟨D, hown, r⟩ := h
  have hlt := hown.lt
  obtain ⟨es, clock, hb', F⟩ := hown
  exact ⟨D, ⟨es, clock, (hb.block b hlt).trans hb', F⟩, r⟩

theorem place_self {f : Nat → ByteArray} {k n : Nat} (h : k < n) : 0 ≤ place f n (f k) := by
  have h1 : 0 ≤ place f (k + 1) (f k) := by
    rw [place_succ]
    split
    · assumption
    · simp
  have h2 := place_more h1 (n - (k + 1))
  rw [show k + 1 + (n - (k + 1)) = n by omega] at h2
  rw [h2]
  exact h1

/-- Up to the maps: what the law's own loops reckon ('want') is whether the header is taken. -/
theorem want_known {C : Nat → ByteArray} {nc : Nat} {O : Nat → ByteArray} {no : Nat} {Hd : Nat → ByteArray} {k : Nat} {x y : Bool} (h : Hid (x = (y && allB k (fun i => knownB C nc O no (Hd i))))) (hk : knownB C nc O no (Hd k) = true) : Hid (x = (y && allB (k + 1) (fun i => knownB C nc O no (Hd i)))) := by
  show x = _
  rw [h.out]
  simp [allB, hk]
theorem want_unknown {C : Nat → ByteArray} {nc : Nat} {O : Nat → ByteArray} {no : Nat} {Hd : Nat → ByteArray} {k : Nat} {y : Bool} (hk : knownB C nc O no (Hd k) = false) : Hid (false = (y && allB (k + 1) (fun i => knownB C nc O no (Hd i)))) := by
  show false = _
  simp [allB, hk]
theorem want_col {C : Nat → ByteArray} {Hd : Nat → ByteArray} {nh k : Nat} {x y : Bool} (h : Hid (x = (y && allB k (fun j => decide (0 ≤ place Hd nh (C j)))))) (hk : 0 ≤ place Hd nh (C k)) : Hid (x = (y && allB (k + 1) (fun j => decide (0 ≤ place Hd nh (C j))))) := by
  show x = _
  rw [h.out]
  simp [allB, hk]
theorem want_nocol {C : Nat → ByteArray} {Hd : Nat → ByteArray} {nh k : Nat} {y : Bool} (hk : ¬ 0 ≤ place Hd nh (C k)) : Hid (false = (y && allB (k + 1) (fun j => decide (0 ≤ place Hd nh (C j))))) := by
  show false = _
  simp [allB, hk]

set_option maxHeartbeats 4000000 in
set_option maxRecDepth 100000 in
theorem walk3 (a0 : Option Addr) (nh c0 : Nat) (d0 : Nat → Addr) (Hd : Nat → ByteArray) (a1 : Option Addr) (nc c1 : Nat) (d1 : Nat → Addr) (C : Nat → ByteArray) (a2 : Option Addr) (no c2 : Nat) (d2 : Nat → Addr) (O : Nat → ByteArray) (w : World)
    (h0 : Has w a0 nh d0 Hd) (h1 : Has w a1 nc d1 C) (h2 : Has w a2 no d2 O) (z0 : a0 = none → nh = 0) (z1 : a1 = none → nc = 0) (z2 : a2 = none → no = 0)
    (m0 : ∀ i, i < nh → (Hd i).size ≤ maxLen) (m1 : ∀ i, i < nc → (C i).size ≤ maxLen) (m2 : ∀ i, i < no → (O i).size ≤ maxLen) :
    Calls Try.prog 3 #[.slice a0 nh c0, .slice a1 nc c1, .slice a2 no c2] w (Ret (.bool true) w) := by
  have KB := bytes6 a0 nh c0 d0 Hd a1 nc c1 d1 C a2 no c2 d2 O w h0 h1 h2
  by_cases hs : nh ≤ 1024 ∧ nc ≤ 1024 ∧ no ≤ 1024
  · obtain ⟨l0, l1, l2⟩ := hs
    have K0 := bytes7 a0 nh c0 d0 Hd w h0 l0
    have K1 := bytes7 a1 nc c1 d1 C w h1 l1
    have K2 := bytes7 a2 no c2 d2 O w h2 l2
    have hnl := fun (w : World) (r : Option Nat) => run_eql_map_nil (P := Try.prog) w 26 9 3 r Try.underlying26
    go_enter Try.func3, Try.ntmps3
    go_wp2_with fail
    refine KB.mono ?_
    rintro e w' ⟨r, rfl, hw⟩
    rw [hw]
    clear hw KB
    cases r with
    | false =>
      go_wp2
      go_ret
      exact ⟨rfl, Below.refl _ _⟩
    | true =>
      go_wp2_with fail
      refine K0.mono ?_
      rintro e w' ⟨r0, rfl, hw⟩
      rw [hw]
      clear hw K0
      go_wp2_with fail
      refine K1.mono ?_
      rintro e w' ⟨r1, rfl, hw⟩
      rw [hw]
      clear hw K1
      go_wp2_with fail
      refine K2.mono ?_
      rintro e w' ⟨r2, rfl, hw⟩
      rw [hw]
      clear hw K2
      go_wp2_with fail
      · go_ret
        exact ⟨rfl, Below.refl _ _⟩
      · refine (clone8 a0 nh c0 d0 Hd w z0 h0 l0).mono ?_
        rintro e w1 ⟨x0, e0, t0, rfl, y0, g0, b1⟩
        go_wp2_with fail
        refine (clone8 a1 nc c1 d1 C _ z1 (h1.later b1) l1).mono ?_
        rintro e w2 ⟨x1, e1, t1, rfl, y1, g1, b2⟩
        have B2 := below_on b1 b2
        replace g0 := g0.later b2
        clear b1 b2
        go_wp2_with fail
        refine (clone8 a2 no c2 d2 O _ z2 (h2.later B2) l2).mono ?_
        rintro e w3 ⟨x2, e2, t2, rfl, y2, g2, b3⟩
        have B3 := below_on B2 b3
        replace g0 := g0.later b3
        replace g1 := g1.later b3
        clear B2 b3 h0 h1 h2 z0 z1 z2
        go_wp2_with fail
        refine (header9 x0 nh e0 t0 Hd x1 nc e1 t1 C x2 no e2 t2 O _ g0 g1 g2 l0 l1 l2 m0 m1 m2).mono ?_
        rintro e w4 ho
        obtain ⟨v, ok, he, hok, hmap, b4⟩ : ∃ v ok, e = .returned (.tuple #[.map v, .bool ok]) ∧ Hid (ok = accB Hd nh C nc O no) ∧ Hid ((ok = true ∧ ∃ b n, v = some b ∧ St w4 b n (names O no ++ names C nc) (place Hd nh)) ∨ (ok = false ∧ v = none)) ∧ Below w3.heap.size w3 w4 := by
          rcases ho with ⟨ha, b, n, rfl, hst, hb⟩ | ⟨ha, rfl, hb⟩
          · exact ⟨_, _, rfl, ha.symm, .inl ⟨rfl, b, n, rfl, hst⟩, hb⟩
          · exact ⟨_, _, rfl, ha.symm, .inr ⟨rfl, rfl⟩, hb⟩
        clear ho
        rw [he]
        clear he e
        have B4 := below_on B3 b4
        replace g0 := g0.later b4
        replace g1 := g1.later b4
        replace g2 := g2.later b4
        clear B3 b4
        go_wp2_with fail
        refine (dup10 x0 nh e0 t0 Hd _ g0 l0 y0).mono ?_
        rintro e w5 ⟨rfl, b5⟩
        have B5 := below_on B4 b5
        replace g0 := g0.later b5
        replace g1 := g1.later b5
        replace g2 := g2.later b5
        have HM : Hid ((ok = true ∧ ∃ b n, v = some b ∧ St w5 b n (names O no ++ names C nc) (place Hd nh)) ∨ (ok = false ∧ v = none)) := by
          rcases hmap.out with ⟨q1, b, n, q2, q3⟩ | q
          · exact .inl ⟨q1, b, n, q2, q3.later b5⟩
          · exact .inr q
        clear B4 b5 hmap
        go_wp2_with fail
        have kC := fun s => index11 x1 nc e1 t1 C s w5 g1 (by omega)
        have kO := fun s => index11 x2 no e2 t2 O s w5 g2 (by omega)
        have kH := fun s => index11 x0 nh e0 t0 Hd s w5 g0 (by omega)
        go_loop [9, 10] (fun t i => ∃ (k : Nat) (x : Bool), k ≤ nh ∧ i = .int .i64 k ∧ t = .bool x ∧ Hid (x = (!dupB Hd nh && allB k (fun i => knownB C nc O no (Hd i))))) (fun _ i => nh - (intOf i).toNat)
        case atStart => exact ⟨0, _, Nat.zero_le _, rfl, rfl, by show _ = _; simp [allB]⟩
        case round =>
          obtain ⟨k, x, hk, rfl, rfl, hx⟩ := hrel
          by_cases hlt : k < nh
          · have i1 := g0.1 k hlt nh e0 hlt
            have hck := g0.2 k hlt
            have k1 := kC (Hd k)
            have k2 := kO (Hd k)
            by_cases pc : 0 ≤ place C nc (Hd k)
            · have HX := want_known hx (show knownB C nc O no (Hd k) = true by simp [knownB, pc])
              clear hx k2
              generalize place C nc (Hd k) = pl at *
              go_wp2_with fail
              refine k1.mono ?_
              rintro e w' ⟨rfl, hw⟩
              rw [hw]
              clear hw k1
              go_wp2
              go_round
              case rel => exact ⟨k + 1, x, by omega, by go_num, rfl, HX⟩
              case measure => simp [intOf]; omega
            · by_cases po : 0 ≤ place O no (Hd k)
              · have HX := want_known hx (show knownB C nc O no (Hd k) = true by simp [knownB, po])
                clear hx
                generalize place C nc (Hd k) = pl at *
                generalize place O no (Hd k) = ql at *
                go_wp2_with fail
                refine k1.mono ?_
                rintro e w' ⟨rfl, hw⟩
                rw [hw]
                clear hw k1
                go_wp2_with fail
                refine k2.mono ?_
                rintro e w' ⟨rfl, hw⟩
                rw [hw]
                clear hw k2
                go_wp2
                go_round
                case rel => exact ⟨k + 1, x, by omega, by go_num, rfl, HX⟩
                case measure => simp [intOf]; omega
              · have HX := want_unknown (y := !dupB Hd nh) (show knownB C nc O no (Hd k) = false by simp [knownB, pc, po])
                clear hx
                generalize place C nc (Hd k) = pl at *
                generalize place O no (Hd k) = ql at *
                go_wp2_with fail
                refine k1.mono ?_
                rintro e w' ⟨rfl, hw⟩
                rw [hw]
                clear hw k1
                go_wp2_with fail
                refine k2.mono ?_
                rintro e w' ⟨rfl, hw⟩
                rw [hw]
                clear hw k2
                go_wp2
                go_round
                case rel => exact ⟨k + 1, false, by omega, by go_num, rfl, HX⟩
                case measure => simp [intOf]; omega
          · have hx1 := hx.out
            rw [show k = nh by omega] at hx1
            have HX1 : Hid (x = (!dupB Hd nh && allB nh (fun i => knownB C nc O no (Hd i)))) := hx1
            clear hx hx1
            go_wp2_with fail
            go_loop [9, 11] (fun t i => ∃ (k : Nat) (y : Bool), k ≤ nc ∧ i = .int .i64 k ∧ t = .bool y ∧ Hid (y = (x && allB k (fun j => decide (0 ≤ place Hd nh (C j)))))) (fun _ i => nc - (intOf i).toNat)
            case atStart => exact ⟨0, _, Nat.zero_le _, rfl, rfl, by show _ = _; simp [allB]⟩
            case round =>
              obtain ⟨j, y, hj, rfl, rfl, hy⟩ := hrel
              by_cases hjt : j < nc
              · have i1 := g1.1 j hjt nc e1 hjt
                have hck := g1.2 j hjt
                have k1 := kH (C j)
                by_cases pc : 0 ≤ place Hd nh (C j)
                · have HY := want_col hy pc
                  clear hy
                  generalize place Hd nh (C j) = pl at *
                  go_wp2_with fail
                  refine k1.mono ?_
                  rintro e w' ⟨rfl, hw⟩
                  rw [hw]
                  clear hw k1
                  go_wp2
                  go_round
                  case rel => exact ⟨j + 1, y, by omega, by go_num, rfl, HY⟩
                  case measure => simp [intOf]; omega
                · have HY := want_nocol (y := x) pc
                  clear hy
                  generalize place Hd nh (C j) = pl at *
                  go_wp2_with fail
                  refine k1.mono ?_
                  rintro e w' ⟨rfl, hw⟩
                  rw [hw]
                  clear hw k1
                  go_wp2
                  go_round
                  case rel => exact ⟨j + 1, false, by omega, by go_num, rfl, HY⟩
                  case measure => simp [intOf]; omega
              · have hyok : y = ok := by
                  rw [hok.out, hy.out, show j = nc by omega, HX1.out]
                  rfl
                subst hyok
                clear hy HX1 hok
                rcases HM.out with ⟨rfl, b, n, rfl, D, hown, q1, q2, q3⟩ | ⟨rfl, rfl⟩
                · clear HM
                  have HQ1 : Hid (∀ s, Maps.has D (ks s) = decide (key s ∈ names O no ++ names C nc)) := q1
                  have HQ2 : Hid (∀ s, key s ∈ names O no ++ names C nc → D.atKey (ks s) (.lit (.int .i64 0)) = .lit (.int .i64 (place Hd nh s))) := q2
                  have HQ3 : Hid (Maps.size D = cnt (names O no ++ names C nc)) := q3
                  clear q1 q2 q3
                  go_wp2_with fail
                  clear hlt hk hjt hj
                  go_loop [12, 13] (fun t i => ∃ k d : Nat, k ≤ nc ∧ i = .int .i64 k ∧ t = .int .i64 d ∧ d ≤ k ∧ Hid (d = cnt (names C k))) (fun _ i => nc - (intOf i).toNat)
                  case atStart => exact ⟨0, 0, Nat.zero_le _, rfl, rfl, Nat.le_refl _, rfl⟩
                  case round =>
                    obtain ⟨k3, d, hk, rfl, rfl, hdk, hd⟩ := hrel
                    by_cases hlt : k3 < nc
                    · have i1 := g1.1 k3 hlt nc e1 hlt
                      have hck := g1.2 k3 hlt
                      have hc1 : (k3 : Int) ≤ e1 := by omega
                      have k1 := index11 x1 k3 e1 t1 C (C k3) w5 (g1.take (by omega)) (by omega)
                      have k2 := kH (C k3)
                      have hkey := ks_ok (m1 k3 hlt)
                      have hmem : key (C k3) ∈ names O no ++ names C nc := List.mem_append.2 (.inr (mem_names.2 (place_self hlt)))
                      have hhas : Maps.has D (ks (C k3)) = true := by rw [HQ1.out]; simpa using hmem
                      have hval := HQ2.out _ hmem
                      clear hmem
                      generalize place Hd nh (C k3) = vl at *
                      by_cases pc : 0 ≤ place C k3 (C k3)
                      · have HD : Hid (d = cnt (names C (k3 + 1))) := by
                          show d = _
                          rw [names_succ, cnt_snoc, if_pos (mem_names.2 pc), hd.out]
                          rfl
                        clear hd
                        generalize place C k3 (C k3) = pl at *
                        go_wp2_with fail
                        refine k1.mono ?_
                        rintro e w' ⟨rfl, hw⟩
                        rw [hw]
                        clear hw k1
                        go_wp2_with (at_lookup; refine wpList_lookup_own_ok_int _ rfl _ _ 26 rfl 9 3 .i64 law Try.underlying26 Try.underlying3 (zero3 _) b _ _ rfl hown _ _ rfl hkey ?_; intro c hat hwc; obtain rfl := lit_inj (hval.symm.trans hat); clear hat hwc)
                        refine k2.mono ?_
                        rintro e w' ⟨rfl, hw⟩
                        rw [hw]
                        clear hw k2
                        go_wp2
                        go_round
                        case rel => exact ⟨k3 + 1, d, by omega, by go_num, by go_num, by omega, HD⟩
                        case measure => simp [intOf]; omega
                      · have HD : Hid (d + 1 = cnt (names C (k3 + 1))) := by
                          show d + 1 = _
                          rw [names_succ, cnt_snoc, if_neg (fun h => pc (mem_names.1 h)), hd.out]
                        clear hd
                        generalize place C k3 (C k3) = pl at *
                        go_wp2_with fail
                        refine k1.mono ?_
                        rintro e w' ⟨rfl, hw⟩
                        rw [hw]
                        clear hw k1
                        go_wp2_with (at_lookup; refine wpList_lookup_own_ok_int _ rfl _ _ 26 rfl 9 3 .i64 law Try.underlying26 Try.underlying3 (zero3 _) b _ _ rfl hown _ _ rfl hkey ?_; intro c hat hwc; obtain rfl := lit_inj (hval.symm.trans hat); clear hat hwc)
                        refine k2.mono ?_
                        rintro e w' ⟨rfl, hw⟩
                        rw [hw]
                        clear hw k2
                        go_wp2
                        go_round
                        case rel => exact ⟨k3 + 1, d + 1, by omega, by go_num, by go_num, by omega, HD⟩
                        case measure => simp [intOf]; omega
                    · have hd1 := hd.out
                      rw [show k3 = nc by omega] at hd1
                      have HD1 : Hid (d = cnt (names C nc)) := hd1
                      have hdn : d ≤ nc := by omega
                      clear hd hd1 hdk
                      go_wp2_with fail
                      clear hlt hk
                      go_loop [12, 17] (fun t i => ∃ k d : Nat, k ≤ no ∧ i = .int .i64 k ∧ t = .int .i64 d ∧ d ≤ nc + k ∧ Hid (d = cnt (names C nc ++ names O k))) (fun _ i => no - (intOf i).toNat)
                      case atStart => exact ⟨0, d, Nat.zero_le _, rfl, rfl, hdn, by show d = _; rw [HD1.out]; simp [names]⟩
                      case round =>
                        clear HD1 hdn
                        obtain ⟨k4, d4, hk, rfl, rfl, hdk, hd⟩ := hrel
                        by_cases hlt : k4 < no
                        · have i1 := g2.1 k4 hlt no e2 hlt
                          have hck := g2.2 k4 hlt
                          have hc1 : (k4 : Int) ≤ e2 := by omega
                          have k1 := index11 x2 k4 e2 t2 O (O k4) w5 (g2.take (by omega)) (by omega)
                          have k2 := kC (O k4)
                          have k3' := kH (O k4)
                          have hkey := ks_ok (m2 k4 hlt)
                          have hmem : key (O k4) ∈ names O no ++ names C nc := List.mem_append.2 (.inl (mem_names.2 (place_self hlt)))
                          have hhas : Maps.has D (ks (O k4)) = true := by rw [HQ1.out]; simpa using hmem
                          have hval := HQ2.out _ hmem
                          clear hmem
                          generalize place Hd nh (O k4) = vl at *
                          by_cases pc : 0 ≤ place O k4 (O k4)
                          · have HD : Hid (d4 = cnt (names C nc ++ names O (k4 + 1))) := by
                              show d4 = _
                              rw [names_succ, ← List.append_assoc, cnt_snoc, if_pos (List.mem_append.2 (.inr (mem_names.2 pc))), hd.out]
                              rfl
                            clear hd k2
                            generalize place O k4 (O k4) = pl at *
                            go_wp2_with fail
                            refine k1.mono ?_
                            rintro e w' ⟨rfl, hw⟩
                            rw [hw]
                            clear hw k1
                            go_wp2_with (at_lookup; refine wpList_lookup_own_ok_int _ rfl _ _ 26 rfl 9 3 .i64 law Try.underlying26 Try.underlying3 (zero3 _) b _ _ rfl hown _ _ rfl hkey ?_; intro c hat hwc; obtain rfl := lit_inj (hval.symm.trans hat); clear hat hwc)
                            refine k3'.mono ?_
                            rintro e w' ⟨rfl, hw⟩
                            rw [hw]
                            clear hw k3'
                            go_wp2
                            go_round
                            case rel => exact ⟨k4 + 1, d4, by omega, by go_num, by go_num, by omega, HD⟩
                            case measure => simp [intOf]; omega
                          · by_cases po : 0 ≤ place C nc (O k4)
                            · have HD : Hid (d4 = cnt (names C nc ++ names O (k4 + 1))) := by
                                show d4 = _
                                rw [names_succ, ← List.append_assoc, cnt_snoc, if_pos (List.mem_append.2 (.inl (mem_names.2 po))), hd.out]
                                rfl
                              clear hd
                              generalize place O k4 (O k4) = pl at *
                              generalize place C nc (O k4) = ql at *
                              go_wp2_with fail
                              refine k1.mono ?_
                              rintro e w' ⟨rfl, hw⟩
                              rw [hw]
                              clear hw k1
                              go_wp2_with fail
                              refine k2.mono ?_
                              rintro e w' ⟨rfl, hw⟩
                              rw [hw]
                              clear hw k2
                              go_wp2_with (at_lookup; refine wpList_lookup_own_ok_int _ rfl _ _ 26 rfl 9 3 .i64 law Try.underlying26 Try.underlying3 (zero3 _) b _ _ rfl hown _ _ rfl hkey ?_; intro c hat hwc; obtain rfl := lit_inj (hval.symm.trans hat); clear hat hwc)
                              refine k3'.mono ?_
                              rintro e w' ⟨rfl, hw⟩
                              rw [hw]
                              clear hw k3'
                              go_wp2
                              go_round
                              case rel => exact ⟨k4 + 1, d4, by omega, by go_num, by go_num, by omega, HD⟩
                              case measure => simp [intOf]; omega
                            · have HD : Hid (d4 + 1 = cnt (names C nc ++ names O (k4 + 1))) := by
                                show d4 + 1 = _
                                rw [names_succ, ← List.append_assoc, cnt_snoc, if_neg (fun h => (List.mem_append.1 h).elim (fun h => po (mem_names.1 h)) (fun h => pc (mem_names.1 h))), hd.out]
                              clear hd
                              generalize place O k4 (O k4) = pl at *
                              generalize place C nc (O k4) = ql at *
                              go_wp2_with fail
                              refine k1.mono ?_
                              rintro e w' ⟨rfl, hw⟩
                              rw [hw]
                              clear hw k1
                              go_wp2_with fail
                              refine k2.mono ?_
                              rintro e w' ⟨rfl, hw⟩
                              rw [hw]
                              clear hw k2
                              go_wp2_with (at_lookup; refine wpList_lookup_own_ok_int _ rfl _ _ 26 rfl 9 3 .i64 law Try.underlying26 Try.underlying3 (zero3 _) b _ _ rfl hown _ _ rfl hkey ?_; intro c hat hwc; obtain rfl := lit_inj (hval.symm.trans hat); clear hat hwc)
                              refine k3'.mono ?_
                              rintro e w' ⟨rfl, hw⟩
                              rw [hw]
                              clear hw k3'
                              go_wp2
                              go_round
                              case rel => exact ⟨k4 + 1, d4 + 1, by omega, by go_num, by go_num, by omega, HD⟩
                              case measure => simp [intOf]; omega
                        · have hsz : Maps.size D = d4 := by
                            rw [HQ3.out, hd.out, show k4 = no by omega, cnt_turn]
                          clear hd
                          go_wp2_with (at_len; refine wpList_len_own _ rfl _ 26 rfl 9 3 Try.underlying26 _ b _ D rfl hown ?_)
                          go_ret
                          exact ⟨rfl, B5⟩
                · clear HM
                  go_wp2
                  go_ret
                  exact ⟨rfl, B5⟩
  · rcases (show 1024 < nh ∨ (nh ≤ 1024 ∧ 1024 < nc) ∨ (nh ≤ 1024 ∧ nc ≤ 1024 ∧ 1024 < no) by omega) with t | ⟨t1, t⟩ | ⟨t1, t2, t⟩
    all_goals
      clear hs h0 h1 h2 z0 z1 z2 m0 m1 m2
      go_enter Try.func3, Try.ntmps3
      go_wp2_with fail
      refine KB.mono ?_
      rintro e w' ⟨r, rfl, hw⟩
      rw [hw]
      clear hw KB
      cases r
      all_goals
        go_wp2
        go_ret
        exact ⟨rfl, Below.refl _ _⟩
end Go.Proofs.Qxb6001386a
