/-
  Facts on worlds and byte slices that the walks of this seat share; the plain function that 'codeLength' computes.
-/
import Derived.Test.Qxb6001211aRows
import Derived.WalkKit
import Derived.WalkSpells
import Derived.WalkLawsBesides
import Derived.Deep.OwnRows
namespace Go.Proofs.Qxb6001211a
open Go.RowKit

/-- A slice of bytes at 'a', 'n' long, whose element i is 'f i'. -/
def Has (w : World) (a : Option Addr) (n : Nat) (f : Nat → Int) : Prop :=
  n < 1 ∨ ∃ b o, a = some ⟨b, o, none⟩ ∧ ∀ i, i < n → w.cell? ⟨b, o + i, none⟩ = some (.int .u8 (f i))

/-- The code's length by the bytes 'f', of which there are 'n'. -/
def codeLen (f : Nat → Int) (n : Nat) : Int :=
  if f 0 < 128 then 1 else if f 0 = 128 ∨ f 0 = 255 then -1 else if n < 2 then 0 else
  if 64 ≤ f 1 ∧ f 1 ≤ 254 ∧ f 1 ≠ 127 then 2 else if f 1 < 48 ∨ 57 < f 1 then -2 else if n < 3 then 0 else
  if f 2 < 129 ∨ f 2 = 255 then -3 else if n < 4 then 0 else if f 3 < 48 ∨ 57 < f 3 then -4 else 4

/-- The ways through the function. -/
theorem codeLen_ways (f : Nat → Int) (n : Nat) :
    (f 0 < 128 ∧ codeLen f n = 1) ∨
    (¬ f 0 < 128 ∧ (f 0 = 128 ∨ f 0 = 255) ∧ codeLen f n = -1) ∨
    (¬ f 0 < 128 ∧ ¬ (f 0 = 128 ∨ f 0 = 255) ∧ n < 2 ∧ codeLen f n = 0) ∨
    (¬ f 0 < 128 ∧ ¬ (f 0 = 128 ∨ f 0 = 255) ∧ ¬ n < 2 ∧ (64 ≤ f 1 ∧ f 1 ≤ 254 ∧ f 1 ≠ 127) ∧ codeLen f n = 2) ∨
    (¬ f 0 < 128 ∧ ¬ (f 0 = 128 ∨ f 0 = 255) ∧ ¬ n < 2 ∧ ¬ (64 ≤ f 1 ∧ f 1 ≤ 254 ∧ f 1 ≠ 127) ∧ (f 1 < 48 ∨ 57 < f 1) ∧ codeLen f n = -2) ∨
    (¬ f 0 < 128 ∧ ¬ (f 0 = 128 ∨ f 0 = 255) ∧ ¬ n < 2 ∧ ¬ (64 ≤ f 1 ∧ f 1 ≤ 254 ∧ f 1 ≠ 127) ∧ ¬ (f 1 < 48 ∨ 57 < f 1) ∧ n < 3 ∧ codeLen f n = 0) ∨
    (¬ f 0 < 128 ∧ ¬ (f 0 = 128 ∨ f 0 = 255) ∧ ¬ n < 2 ∧ ¬ (64 ≤ f 1 ∧ f 1 ≤ 254 ∧ f 1 ≠ 127) ∧ ¬ (f 1 < 48 ∨ 57 < f 1) ∧ ¬ n < 3 ∧ (f 2 < 129 ∨ f 2 = 255) ∧ codeLen f n = -3) ∨
    (¬ f 0 < 128 ∧ ¬ (f 0 = 128 ∨ f 0 = 255) ∧ ¬ n < 2 ∧ ¬ (64 ≤ f 1 ∧ f 1 ≤ 254 ∧ f 1 ≠ 127) ∧ ¬ (f 1 < 48 ∨ 57 < f 1) ∧ ¬ n < 3 ∧ ¬ (f 2 < 129 ∨ f 2 = 255) ∧ n < 4 ∧ codeLen f n = 0) ∨
    (¬ f 0 < 128 ∧ ¬ (f 0 = 128 ∨ f 0 = 255) ∧ ¬ n < 2 ∧ ¬ (64 ≤ f 1 ∧ f 1 ≤ 254 ∧ f 1 ≠ 127) ∧ ¬ (f 1 < 48 ∨ 57 < f 1) ∧ ¬ n < 3 ∧ ¬ (f 2 < 129 ∨ f 2 = 255) ∧ ¬ n < 4 ∧ (f 3 < 48 ∨ 57 < f 3) ∧ codeLen f n = -4) ∨
    (¬ f 0 < 128 ∧ ¬ (f 0 = 128 ∨ f 0 = 255) ∧ ¬ n < 2 ∧ ¬ (64 ≤ f 1 ∧ f 1 ≤ 254 ∧ f 1 ≠ 127) ∧ ¬ (f 1 < 48 ∨ 57 < f 1) ∧ ¬ n < 3 ∧ ¬ (f 2 < 129 ∨ f 2 = 255) ∧ ¬ n < 4 ∧ ¬ (f 3 < 48 ∨ 57 < f 3) ∧ codeLen f n = 4) := by
  by_cases h0 : f 0 < 128
  · exact .inl ⟨h0, by unfold codeLen; rw [if_pos h0]⟩
  by_cases h1 : f 0 = 128 ∨ f 0 = 255
  · exact .inr (.inl ⟨h0, h1, by unfold codeLen; rw [if_neg h0, if_pos h1]⟩)
  by_cases h2 : n < 2
  · exact .inr (.inr (.inl ⟨h0, h1, h2, by unfold codeLen; rw [if_neg h0, if_neg h1, if_pos h2]⟩))
  by_cases h3 : 64 ≤ f 1 ∧ f 1 ≤ 254 ∧ f 1 ≠ 127
  · exact .inr (.inr (.inr (.inl ⟨h0, h1, h2, h3, by unfold codeLen; rw [if_neg h0, if_neg h1, if_neg h2, if_pos h3]⟩)))
  by_cases h4 : f 1 < 48 ∨ 57 < f 1
  · exact .inr (.inr (.inr (.inr (.inl ⟨h0, h1, h2, h3, h4, by unfold codeLen; rw [if_neg h0, if_neg h1, if_neg h2, if_neg h3, if_pos h4]⟩))))
  by_cases h5 : n < 3
  · exact .inr (.inr (.inr (.inr (.inr (.inl ⟨h0, h1, h2, h3, h4, h5, by unfold codeLen; rw [if_neg h0, if_neg h1, if_neg h2, if_neg h3, if_neg h4, if_pos h5]⟩)))))
  by_cases h6 : f 2 < 129 ∨ f 2 = 255
  · exact .inr (.inr (.inr (.inr (.inr (.inr (.inl ⟨h0, h1, h2, h3, h4, h5, h6, by unfold codeLen; rw [if_neg h0, if_neg h1, if_neg h2, if_neg h3, if_neg h4, if_neg h5, if_pos h6]⟩))))))
  by_cases h7 : n < 4
  · exact .inr (.inr (.inr (.inr (.inr (.inr (.inr (.inl ⟨h0, h1, h2, h3, h4, h5, h6, h7, by unfold codeLen; rw [if_neg h0, if_neg h1, if_neg h2, if_neg h3, if_neg h4, if_neg h5, if_neg h6, if_pos h7]⟩)))))))
  by_cases h8 : f 3 < 48 ∨ 57 < f 3
  · exact .inr (.inr (.inr (.inr (.inr (.inr (.inr (.inr (.inl ⟨h0, h1, h2, h3, h4, h5, h6, h7, h8, by unfold codeLen; rw [if_neg h0, if_neg h1, if_neg h2, if_neg h3, if_neg h4, if_neg h5, if_neg h6, if_neg h7, if_pos h8]⟩))))))))
  exact .inr (.inr (.inr (.inr (.inr (.inr (.inr (.inr (.inr (⟨h0, h1, h2, h3, h4, h5, h6, h7, h8, by unfold codeLen; rw [if_neg h0, if_neg h1, if_neg h2, if_neg h3, if_neg h4, if_neg h5, if_neg h6, if_neg h7, if_neg h8]⟩)))))))))

theorem codeLen_bd (f : Nat → Int) (n : Nat) : -4 ≤ codeLen f n ∧ codeLen f n ≤ 4 := by
  have a := codeLen_ways f n
  generalize codeLen f n = x at *
  rcases a with a | a | a | a | a | a | a | a | a | a <;> omega

theorem codeLen_two (f : Nat → Int) (n n2 : Nat) (h2 : n ≤ n2) (hn : 1 ≤ n) :
    (codeLen f n = 0 ∧ n < 4 ∧ (codeLen f n2 = 0 ∨ codeLen f n2 < -n ∨ (n : Int) < codeLen f n2)) ∨
    (codeLen f n ≠ 0 ∧ codeLen f n2 = codeLen f n ∧ -4 ≤ codeLen f n ∧ codeLen f n ≤ 4 ∧ codeLen f n ≠ 3 ∧ (codeLen f n).natAbs ≤ n) := by
  have a := codeLen_ways f n
  have b := codeLen_ways f n2
  generalize codeLen f n = x at *
  generalize codeLen f n2 = y at *
  rcases a with a | a | a | a | a | a | a | a | a | a <;> omega

theorem codeLen_self (f : Nat → Int) (n : Nat) (_h : codeLen f n ≠ 0) : codeLen f (codeLen f n).natAbs = codeLen f n := by
  have a := codeLen_ways f n
  have b := codeLen_ways f (codeLen f n).natAbs
  generalize codeLen f (codeLen f n).natAbs = y at *
  generalize codeLen f n = x at *
  rcases a with a | a | a | a | a | a | a | a | a | a <;> omega
end Go.Proofs.Qxb6001211a
