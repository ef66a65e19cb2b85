/-
  Facts on worlds and slices that the walks of this seat share.
-/
import Derived.Test.Qxb6001075aRows
import Derived.WalkKit
import Derived.WalkSpells
import Derived.WalkLawsBesides
import Derived.Deep.OwnRows
namespace Go.Proofs.Qxb6001075a
open Go.RowKit

/-- A slice of one-cell elements at 'a', 'n' long, whose element i is 'f i'. -/
def Has (w : World) (a : Option Addr) (n : Nat) (f : Nat → Value) : Prop :=
  n < 1 ∨ ∃ b o, a = some ⟨b, o, none⟩ ∧ ∀ i, i < n → w.cell? ⟨b, o + i, none⟩ = some (f i)

theorem Has.later {w wx : World} {a : Option Addr} {n : Nat} {f : Nat → Value} (h : Has w a n f) (hb : Below w.heap.size w wx) : Has wx a n f := by
  rcases h with h | ⟨b, o, ha, hc⟩
  · exact .inl h
  · exact .inr ⟨b, o, ha, fun i hi => cell_later hb (hc i hi)⟩

theorem bcell {W w1 : World} (hb : Below W.heap.size W w1) : (∀ b o, b < W.heap.size → w1.cell? ⟨b, o, none⟩ = W.cell? ⟨b, o, none⟩) ∧ (∀ b o, b < W.heap.size → w1.frozen? ⟨b, o, none⟩ = W.frozen? ⟨b, o, none⟩) :=
  ⟨fun b o h => hb.cell (p := ⟨b, o, none⟩) h, fun b o h => hb.frozen (p := ⟨b, o, none⟩) h⟩

end Go.Proofs.Qxb6001075a
