import Derived.Test.Qxb6001075aApart
import Derived.Test.Qxb6001075aBytes
namespace Go.Proofs.Qxb6001075a
open Go.RowKit Go.Sort

set_option maxHeartbeats 400000 in
theorem apart12 (R b n m cap : Nat) (E : Nat → Nat) (T : Nat → Int) (C : Nat → ByteArray) (R' b' n' m' cap' : Nat) (E' : Nat → Nat) (T' : Nat → Int) (C' : Nat → ByteArray) (w : World)
    (hr : w.rowIs b 41 (n * 3) (entCell T C)) (hq : RunsAt w R b n m E) (l : n ≤ 65536) (hm : 0 < m) (lm : m ≤ 65537)
    (hr' : w.rowIs b' 41 (n' * 3) (entCell T' C')) (hq' : RunsAt w R' b' n' m' E') (l' : n' ≤ 65536) (hm' : 0 < m') (lm' : m' ≤ 65537) :
    Calls Try.prog 12 #[.agg #[.slice (some ⟨R, 0, none⟩) m cap], .agg #[.slice (some ⟨R', 0, none⟩) m' cap']] w (DiffOut T C T' C' (min n n') w) := by
  have hb0 : Below w.heap.size w ((w.alloc (.cells #[.slice (some ⟨R, 0, none⟩) m cap] 34)).alloc (.cells #[.slice (some ⟨R', 0, none⟩) m' cap'] 34)) := ((Below.refl _ _).alloc (Nat.le_refl _) _).alloc (by simp) _
  go_enter Try.func12, Try.ntmps12
  go_wp2_with fail
  refine (apart17 R b n m cap E T C R' b' n' m' cap' E' T' C' _ (row_later hr hb0) (hq.later hb0) l hm lm (row_later hr' hb0) (hq'.later hb0) l' hm' lm').mono ?_
  rintro e w' ⟨r, rfl, hfd, hb⟩
  go_wp2
  go_ret
  exact ⟨r, rfl, hfd, below_on hb0 hb⟩

set_option maxHeartbeats 1000000 in
theorem top3 (a0 : Option Addr) (n0 c0 : Nat) (a1 : Option Addr) (n1 c1 : Nat) (a2 : Option Addr) (n2 c2 : Nat) (a3 : Option Addr) (n3 c3 : Nat) (a4 : Option Addr) (n4 c4 : Nat) (a5 : Option Addr) (n5 c5 : Nat)
    (F0 : Nat → Int) (F1 : Nat → ByteArray) (F2 F3 : Nat → Int) (F4 : Nat → ByteArray) (F5 : Nat → Int) (w : World)
    (h0 : Has w a0 n0 (fun i => .int .u64 (F0 i))) (h1 : Has w a1 n1 (fun i => .string (F1 i))) (h2 : Has w a2 n2 (fun i => .int .i64 (F2 i)))
    (h3 : Has w a3 n3 (fun i => .int .u64 (F3 i))) (h4 : Has w a4 n4 (fun i => .string (F4 i))) (h5 : Has w a5 n5 (fun i => .int .i64 (F5 i))) :
    Calls Try.prog 3 #[.slice a0 n0 c0, .slice a1 n1 c1, .slice a2 n2 c2, .slice a3 n3 c3, .slice a4 n4 c4, .slice a5 n5 c5] w (Ret (.bool true) w) := by
  go_enter Try.func3, Try.ntmps3
  go_wp2_with fail
  refine (bytes5 a0 n0 c0 a1 n1 c1 a2 n2 c2 a3 n3 c3 a4 n4 c4 a5 n5 c5 F1 F4 _ h1 h4).mono ?_
  rintro e w' ⟨r, rfl, hw⟩
  rw [hw]
  clear hw
  cases r with
  | false =>
    go_wp2
    go_ret
    exact ⟨rfl, Below.refl _ _⟩
  | true =>
    go_wp2_with fail
    all_goals first
      | (go_ret; exact ⟨rfl, Below.refl _ _⟩)
      | skip
    have l0 : n0 ≤ 65536 := by omega
    have l1 : n1 ≤ 65536 := by omega
    have l2 : n2 ≤ 65536 := by omega
    have l3 : n3 ≤ 65536 := by omega
    have l4 : n4 ≤ 65536 := by omega
    have l5 : n5 ≤ 65536 := by omega
    refine (bytes6 a0 n0 c0 a1 n1 c1 a2 n2 c2 F1 _ h1 l0 l1 l2).mono ?_
    rintro e w' ⟨r1, rfl, hw⟩
    rw [hw]
    clear hw
    go_wp2_with fail
    refine (bytes6 a3 n3 c3 a4 n4 c4 a5 n5 c5 F4 _ h4 l3 l4 l5).mono ?_
    rintro e w' ⟨r2, rfl, hw⟩
    rw [hw]
    clear hw
    go_wp2_with fail
    · go_ret
      exact ⟨rfl, Below.refl _ _⟩
    · refine (clone7 a0 n0 c0 F0 _ h0 l0).mono ?_
      rintro e w1 ⟨x0, d0, rfl, g0, b1⟩
      go_wp2_with fail
      refine (clone8 a1 n1 c1 F1 _ (h1.later b1) l1).mono ?_
      rintro e w2 ⟨x1, d1, rfl, g1, b2⟩
      have B2 := below_on b1 b2
      replace g0 := g0.later b2
      clear b1 b2
      go_wp2_with fail
      refine (clone9 a2 n2 c2 F2 _ (h2.later B2) l2).mono ?_
      rintro e w3 ⟨x2, d2, rfl, g2, b3⟩
      have B3 := below_on B2 b3
      replace g0 := g0.later b3
      replace g1 := g1.later b3
      clear B2 b3
      go_wp2_with fail
      refine (clone7 a3 n3 c3 F3 _ (h3.later B3) l3).mono ?_
      rintro e w4 ⟨x3, d3, rfl, g3, b4⟩
      have B4 := below_on B3 b4
      replace g0 := g0.later b4
      replace g1 := g1.later b4
      replace g2 := g2.later b4
      clear B3 b4
      go_wp2_with fail
      refine (clone8 a4 n4 c4 F4 _ (h4.later B4) l4).mono ?_
      rintro e w5 ⟨x4, d4, rfl, g4, b5⟩
      have B5 := below_on B4 b5
      replace g0 := g0.later b5
      replace g1 := g1.later b5
      replace g2 := g2.later b5
      replace g3 := g3.later b5
      clear B4 b5
      go_wp2_with fail
      refine (clone9 a5 n5 c5 F5 _ (h5.later B5) l5).mono ?_
      rintro e w6 ⟨x5, d5, rfl, g5, b6⟩
      have B6 := below_on B5 b6
      replace g0 := g0.later b6
      replace g1 := g1.later b6
      replace g2 := g2.later b6
      replace g3 := g3.later b6
      replace g4 := g4.later b6
      clear B5 b6
      go_wp2_with fail
      refine (entries10 x0 n0 d0 F0 x1 n1 d1 F1 _ g0 l0 g1 l1).mono ?_
      rintro e w7 ⟨eA, rfl, rA, b7⟩
      have B7 := below_on B6 b7
      replace g2 := g2.later b7
      replace g3 := g3.later b7
      replace g4 := g4.later b7
      replace g5 := g5.later b7
      clear B6 b7 g0 g1
      go_wp2_with fail
      refine (entries10 x3 n3 d3 F3 x4 n4 d4 F4 _ g3 l3 g4 l4).mono ?_
      rintro e w8 ⟨eB, rfl, rB, b8⟩
      have B8 := below_on B7 b8
      replace g2 := g2.later b8
      replace g5 := g5.later b8
      replace rA := row_later rA b8
      clear B7 b8 g3 g4
      go_wp2_with fail
      refine (applied11 eA n0 F0 (cmdOf n1 F1) x2 n2 d2 F2 _ rA l0 g2 l2).mono ?_
      rintro e w9 ⟨RA, mA, kA, EA, rfl, pA, qA, uA, b9⟩
      have B9 := below_on B8 b9
      replace g5 := g5.later b9
      replace rA := row_later rA b9
      replace rB := row_later rB b9
      clear B8 b9 g2
      go_wp2_with fail
      have bx : Below w9.heap.size w9 (w9.alloc (.cells #[.slice (some ⟨RA, 0, none⟩) mA kA] 34)) := (Below.refl _ _).alloc (Nat.le_refl _) _
      refine (applied11 eB n3 F3 (cmdOf n4 F4) x5 n5 d5 F5 _ (row_later rB bx) l3 (g5.later bx) l5).mono ?_
      rintro e w10 ⟨RB, mB, kB, EB, rfl, pB, qB, uB, b10⟩
      have kx : w10.cell? ⟨w9.heap.size, 0, none⟩ = some (.slice (some ⟨RA, 0, none⟩) mA kA) := cell_later b10 (by simp)
      have hsz : w9.heap.size < w10.heap.size := by have := b10.size; simp at this; omega
      replace b10 := below_on bx b10
      have B10 := below_on B9 b10
      replace rA := row_later rA b10
      replace rB := row_later rB b10
      replace uA := uA.later b10
      clear B9 b10 g5 bx
      go_wp2_with fail
      have bx : Below w10.heap.size w10 (w10.alloc (.cells #[.slice (some ⟨RB, 0, none⟩) mB kB] 34)) := (Below.refl _ _).alloc (Nat.le_refl _) _
      refine (apart12 RA eA n0 mA kA EA F0 (cmdOf n1 F1) RB eB n3 mB kB EB F3 (cmdOf n4 F4) _ (row_later rA bx) (uA.later bx) l0 pA qA (row_later rB bx) (uB.later bx) l3 pB qB).mono ?_
      rintro e w11 ⟨q1, rfl, f1, b11⟩
      replace b11 := below_on bx b11
      have B11 := below_on B10 b11
      replace rA := row_later rA b11
      replace rB := row_later rB b11
      clear B10 b11 bx uA uB kx hsz
      go_wp2_with fail
      refine (diff13 eA n0 eB n3 F0 (cmdOf n1 F1) F3 (cmdOf n4 F4) _ rA rB l0 l3).mono ?_
      rintro e w12 ⟨q2, rfl, f2, b12⟩
      have B12 := below_on B11 b12
      obtain rfl := f1.one f2
      clear B11 b12 f1 f2 rA rB
      go_wp2
      go_ret
      exact ⟨rfl, B12⟩
end Go.Proofs.Qxb6001075a
