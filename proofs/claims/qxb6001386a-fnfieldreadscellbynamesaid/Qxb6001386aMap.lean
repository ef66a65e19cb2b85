import Derived.Test.Qxb6001386aDup
namespace Go.Proofs.Qxb6001386a
open Go.RowKit Go.Maps Go.WideMaps

theorem law : Keyed Try.prog 9 := string_keyed Try.underlying9
theorem zero3 (w : World) : (zeroValue 3).run Try.prog w = .ok (.int .i64 0) w := by kernel_rfl
theorem make26 (z : Int) (w : World) : (Instr.makeMap 26 (some (.int .i64 z))).run Try.prog w = .ok (.map (some w.heap.size)) (w.alloc (.map #[] 0)) := by kernel_rfl

/-- A name as a key. -/
def ks (s : ByteArray) : Lit := .string (key s)
theorem ks_inj {a b : ByteArray} : ks a = ks b ↔ a = b := by
  constructor
  · intro h; exact key_inj.1 (Lit.string.inj h)
  · intro h; rw [h]
theorem ks_key (s : ByteArray) : WideAt.IsKeyLit (ks s) := trivial
theorem ks_ok {s : ByteArray} (h : s.size ≤ maxLen) : keyOf Try.prog 9 (.string s) = some (ks s) := keyOf_string_mk Try.underlying9 h

/-- Block b is a map whose keys are the names L, each with the number that 'val' tells; at most n stores have made it. -/
def St (w : World) (b n : Nat) (L : List (List UInt8)) (val : ByteArray → Int) : Prop :=
  ∃ D : DataW Unit, w.ownsMap Try.prog 9 (plainElem Try.prog 3) b n D ∧ (∀ s, Maps.has D (ks s) = decide (key s ∈ L)) ∧
    (∀ s, key s ∈ L → D.atKey (ks s) (.lit (.int .i64 0)) = .lit (.int .i64 (val s))) ∧ Maps.size D = cnt L

theorem St.start (w : World) (val : ByteArray → Int) : St (w.alloc (.map #[] 0)) w.heap.size 0 [] val :=
  ⟨_, World.ownsMap_made _ _ _ _, fun s => by simp [Maps.has], fun s h => by simp at h, rfl⟩

/-- A name is stored with -1 while every name has -1. -/
theorem St.put {w w' : World} {b n : Nat} {L : List (List UInt8)} {D : DataW Unit} {s : ByteArray} {val : ByteArray → Int} (hv : ∀ t, val t = -1)
    (hown : w.ownsMap Try.prog 9 (plainElem Try.prog 3) b n D) (h1 : ∀ s, Maps.has D (ks s) = decide (key s ∈ L)) (h2 : ∀ s, key s ∈ L → D.atKey (ks s) (.lit (.int .i64 0)) = .lit (.int .i64 (val s))) (h3 : Maps.size D = cnt L)
    (hown' : w'.ownsMap Try.prog 9 (plainElem Try.prog 3) b (n + 1) (D.put (ks s) (.lit (.int .i64 (-1))))) : St w' b (n + 1) (L ++ [key s]) val := by
  refine ⟨_, hown', fun t => ?_, fun t ht => ?_, ?_⟩
  · by_cases e : t = s
    · subst e
      rw [has_put_same hown.isMap (ks_key _)]
      simp
    · have e' : ks t ≠ ks s := fun h => e (ks_inj.1 h)
      rw [has_put_other e', h1]
      have : ¬ key t = key s := fun h => e (key_inj.1 h)
      simp [this]
  · by_cases e : t = s
    · subst e
      rw [atKey_put_same hown.isMap (ks_key _), hv]
    · have e' : ks t ≠ ks s := fun h => e (ks_inj.1 h)
      rw [atKey_put_other e']
      have : ¬ key t = key s := fun h => e (key_inj.1 h)
      refine h2 t ?_
      simpa [this] using ht
  · rw [size_put (hown.tidy law), h1, h3, cnt_snoc]
    by_cases h : key s ∈ L <;> simp [h]

/-- A known name is stored with its place. -/
theorem St.set {w w' : World} {b n k : Nat} {L : List (List UInt8)} {D : DataW Unit} {f : Nat → ByteArray}
    (hown : w.ownsMap Try.prog 9 (plainElem Try.prog 3) b n D) (h1 : ∀ s, Maps.has D (ks s) = decide (key s ∈ L)) (h2 : ∀ s, key s ∈ L → D.atKey (ks s) (.lit (.int .i64 0)) = .lit (.int .i64 (place f k s))) (h3 : Maps.size D = cnt L)
    (hin : key (f k) ∈ L) (hp : place f k (f k) = -1)
    (hown' : w'.ownsMap Try.prog 9 (plainElem Try.prog 3) b (n + 1) (D.put (ks (f k)) (.lit (.int .i64 (k : Int))))) : St w' b (n + 1) L (place f (k + 1)) := by
  refine ⟨_, hown', fun t => ?_, fun t ht => ?_, ?_⟩
  · by_cases e : t = f k
    · subst e
      rw [has_put_same hown.isMap (ks_key _)]
      simp [hin]
    · have e' : ks t ≠ ks (f k) := fun h => e (ks_inj.1 h)
      rw [has_put_other e', h1]
  · by_cases e : t = f k
    · subst e
      rw [atKey_put_same hown.isMap (ks_key _), place_hit hp rfl (Nat.lt_succ_self k)]
    · have e' : ks t ≠ ks (f k) := fun h => e (ks_inj.1 h)
      rw [atKey_put_other e', h2 t ht, place_succ]
      split
      · rfl
      · rename_i h
        rw [if_neg (fun e2 => e e2.symm)]
        rcases place_range f t k with h' | h'
        · rw [h']
        · exact absurd h'.1 h
  · rw [size_put (hown.tidy law), h1, h3]
    simp [hin]
end Go.Proofs.Qxb6001386a
