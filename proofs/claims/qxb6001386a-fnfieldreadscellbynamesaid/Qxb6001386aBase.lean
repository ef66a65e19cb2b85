/-
  The plain side of this seat: the first place of a name in a list, repeats, how many different names there are. No Go in sight.
-/
import Derived.Test.Qxb6001386aRows
import Derived.WalkKit
import Derived.WalkSpells
import Derived.WalkLawsBesides
import Derived.Deep.OwnRows
import Derived.Maps.OwnSet
namespace Go.Proofs.Qxb6001386a
open Go.RowKit

/-- The first place of s among the first n of f; -1 where there is none. -/
def place (f : Nat → ByteArray) : Nat → ByteArray → Int
  | 0, _ => -1
  | n + 1, s => if 0 ≤ place f n s then place f n s else if f n = s then (n : Int) else -1

theorem place_zero (f : Nat → ByteArray) (s : ByteArray) : place f 0 s = -1 := rfl
theorem place_succ (f : Nat → ByteArray) (n : Nat) (s : ByteArray) : place f (n + 1) s = if 0 ≤ place f n s then place f n s else if f n = s then (n : Int) else -1 := rfl

theorem place_range (f : Nat → ByteArray) (s : ByteArray) : ∀ n, place f n s = -1 ∨ (0 ≤ place f n s ∧ place f n s < n)
  | 0 => .inl rfl
  | n + 1 => by
    rw [place_succ]
    rcases place_range f s n with h | ⟨h1, h2⟩
    · rw [if_neg (by omega)]
      split
      · right; omega
      · left; rfl
    · rw [if_pos h1]; right; omega

/-- Once found, found. -/
theorem place_more {f : Nat → ByteArray} {s : ByteArray} {n : Nat} (h : 0 ≤ place f n s) : ∀ d, place f (n + d) s = place f n s
  | 0 => rfl
  | d + 1 => by rw [← Nat.add_assoc, place_succ, place_more h d, if_pos h]

theorem place_hit {f : Nat → ByteArray} {s : ByteArray} {k n : Nat} (h : place f k s = -1) (hk : f k = s) (hn : k < n) : place f n s = (k : Int) := by
  have h1 : place f (k + 1) s = (k : Int) := by rw [place_succ, if_neg (by omega), if_pos hk]
  have h2 := place_more (f := f) (s := s) (n := k + 1) (by omega) (n - (k + 1))
  rw [show k + 1 + (n - (k + 1)) = n by omega, h1] at h2
  exact h2

theorem place_miss {f : Nat → ByteArray} {s : ByteArray} {k : Nat} (h : place f k s = -1) (hk : ¬ f k = s) : place f (k + 1) s = -1 := by
  rw [place_succ, if_neg (by omega), if_neg hk]

/-- Found: it stands there. -/
theorem place_at {f : Nat → ByteArray} {s : ByteArray} : ∀ {n : Nat}, 0 ≤ place f n s → f (place f n s).toNat = s
  | 0, h => by rw [place_zero] at h; omega
  | n + 1, h => by
    rw [place_succ] at h ⊢
    split
    · rename_i h1; exact place_at h1
    · rename_i h1
      rw [if_neg h1] at h
      split
      · rename_i h2; simpa using h2
      · rename_i h2; rw [if_neg h2] at h; omega

/-- A name as its bytes. -/
def key (s : ByteArray) : List UInt8 := s.data.toList
theorem key_inj {a b : ByteArray} : key a = key b ↔ a = b := by
  constructor
  · intro h
    obtain ⟨⟨x⟩⟩ := a
    obtain ⟨⟨y⟩⟩ := b
    have h' : x = y := h
    rw [h']
  · intro h; rw [h]

/-- The names among the first n. -/
def names (f : Nat → ByteArray) (n : Nat) : List (List UInt8) := (List.range n).map (fun i => key (f i))
theorem names_succ (f : Nat → ByteArray) (n : Nat) : names f (n + 1) = names f n ++ [key (f n)] := by simp [names, List.range_succ]
theorem mem_names {f : Nat → ByteArray} {s : ByteArray} : ∀ {n : Nat}, key s ∈ names f n ↔ 0 ≤ place f n s
  | 0 => by simp [names, place_zero]
  | n + 1 => by
    rw [names_succ, List.mem_append, mem_names (n := n), place_succ]
    by_cases h : 0 ≤ place f n s
    · simp [h]
    · simp only [h, if_false, false_or, List.mem_singleton, key_inj]
      by_cases e : f n = s
      · simp [e]
      · simp only [e, if_false]
        constructor
        · intro h'; exact absurd h'.symm e
        · intro h'; omega

/-- How many different ones there are. -/
def cnt : List (List UInt8) → Nat
  | [] => 0
  | x :: l => cnt l + if x ∈ l then 0 else 1
theorem cnt_snoc (x : List UInt8) : ∀ l : List (List UInt8), cnt (l ++ [x]) = cnt l + if x ∈ l then 0 else 1
  | [] => by simp [cnt]
  | y :: l => by
    rw [List.cons_append]
    simp only [cnt]
    rw [cnt_snoc x l]
    by_cases e : y = x
    · subst e
      by_cases h : y ∈ l <;> simp [h]
    · have e' : ¬ x = y := fun h => e h.symm
      by_cases h : y ∈ l <;> by_cases h' : x ∈ l <;> simp [h, h', e, e']
theorem cnt_turn : ∀ a b : List (List UInt8), cnt (a ++ b) = cnt (b ++ a)
  | [], b => by simp
  | x :: a, b => by
    have h1 : cnt (x :: a ++ b) = cnt ((a ++ b) ++ [x]) := by rw [cnt_snoc]; rfl
    rw [h1, List.append_assoc, cnt_turn a (b ++ [x]), List.append_assoc]
    rfl
theorem cnt_le : ∀ l : List (List UInt8), cnt l ≤ l.length
  | [] => Nat.le_refl _
  | x :: l => by
    have := cnt_le l
    simp only [cnt, List.length_cons]
    split <;> omega

/-- All of the first n. -/
def allB : Nat → (Nat → Bool) → Bool
  | 0, _ => true
  | n + 1, p => allB n p && p n
theorem allB_true {p : Nat → Bool} : ∀ {n : Nat}, allB n p = true ↔ ∀ i, i < n → p i = true
  | 0 => by simp [allB]
  | n + 1 => by
    simp only [allB, Bool.and_eq_true, allB_true (n := n)]
    constructor
    · intro ⟨h1, h2⟩ i hi
      by_cases e : i = n
      · subst e; exact h2
      · exact h1 i (by omega)
    · intro h
      exact ⟨fun i hi => h i (by omega), h n (by omega)⟩
theorem allB_false {p : Nat → Bool} {n i : Nat} (hi : i < n) (h : p i = false) : allB n p = false := by
  cases e : allB n p with
  | false => rfl
  | true => rw [allB_true] at e; rw [e i hi] at h; cases h

/-- Does a name repeat among the first n? -/
def dupB (f : Nat → ByteArray) (n : Nat) : Bool := !allB n (fun i => decide (place f i (f i) < 0))
/-- Is s a known name? -/
def knownB (C : Nat → ByteArray) (nc : Nat) (O : Nat → ByteArray) (no : Nat) (s : ByteArray) : Bool := decide (0 ≤ place C nc s) || decide (0 ≤ place O no s)
/-- Is the header taken? -/
def accB (Hd : Nat → ByteArray) (nh : Nat) (C : Nat → ByteArray) (nc : Nat) (O : Nat → ByteArray) (no : Nat) : Bool :=
  !dupB Hd nh && allB nh (fun i => knownB C nc O no (Hd i)) && allB nc (fun j => decide (0 ≤ place Hd nh (C j)))

theorem beq_names (a b : ByteArray) : (a.toList == b.toList) = decide (a = b) := by
  rw [ByteArray.toList_eq, ByteArray.toList_eq]
  by_cases h : a = b
  · subst h; simp
  · have : ¬ a.data.toList = b.data.toList := fun e => h (key_inj.1 e)
    rw [decide_eq_false h]
    exact beq_eq_false_iff_ne.2 this
end Go.Proofs.Qxb6001386a
