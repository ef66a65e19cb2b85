/-
  No cell of these rows narrows 'for every input' (looked for: loops, veiled, ifaces, maps, wideKeys, modest, calm, conditions, laid).
  DERIVED. THE GIVEN ROWS OF THIS SEAT. 2 by the template 'for every input the law returns true; each argument reads behind the call as it read before'; 0 by the template 'total and deterministic' (their statements: Qxb6001075aTotals.lean).
  GIVEN WITH THE SEED: the statements are not yours to turn. If you find one false, say at which input.
  Laid BY PROGRAM, IN A SANDBOX (cutbox-rows.mjs): the forced cells as the released guide's own fill.sh prints them over the translation b7585a190d0f35eb… (all of the seat's roots in one cut). By AI agents, Wed Nov 11 2026. No macro, syntax, notation, axiom, sorry.
-/
import Derived.Test.Qxb6001075aChecked
import GoSem.Claim
import GoSem.ClaimJoined
import GoSem.ClaimMapViews
import Derived.JoinedTies
import Derived.KernelRfl
namespace Go.Proofs.Qxb6001075a
/- THE CELL 'sum', in the pinned program and in every row, IS THE sha256 OF THE DUMP (.gsa) THAT Qxb6001075aProg.lean LOADS. Nothing in Lean hashes anything: it is a label: what it is worth is what the hold of that sum in a sandbox is worth. -/
noncomputable def Try.pinned : Pinned := { name := "qxb6001075a", sum := "b7585a190d0f35ebb62daf57a4bbd537fb6b240f2d98116c460179c2fcffe113", checked := Try.checked }
namespace Rows
def none {H : Type} : Left H := { results := [], args := [] }

/-- 'zzlaws_sim_b1.FnApartMatchesFlatScan': WHATEVER THE INPUT: true; the input reads as it did. -/
def fnApartMatchesFlatScanSpec : ChangeSpec := { name := "fnApartMatchesFlatScan", fn := fun _ => fun
  | [d1, d2, d3, d4, d5, d6] => { results := [.lit (.bool true)], args := [d1, d2, d3, d4, d5, d6] }
  | _ => none }
def fnApartMatchesFlatScanRow : OpenClaim := { program := "qxb6001075a", sum := "b7585a190d0f35ebb62daf57a4bbd537fb6b240f2d98116c460179c2fcffe113", func := "example.com/tenure/tenure/zzlaws_sim_b1.FnApartMatchesFlatScan", spec := "fnApartMatchesFlatScan", apart := false }
def FnApartMatchesFlatScanSaid : Prop := fnApartMatchesFlatScanRow.holds Try.pinned (OpenSpec.ofChange fnApartMatchesFlatScanSpec)

/-- ITS FALSE NEIGHBOUR: 'it returns false'. Refute it at one input. -/
def fnApartMatchesFlatScanWrong : ChangeSpec := { name := "fnApartMatchesFlatScan", fn := fun _ => fun
  | [d1, d2, d3, d4, d5, d6] => { results := [.lit (.bool false)], args := [d1, d2, d3, d4, d5, d6] }
  | _ => none }
def FnApartMatchesFlatScanWrongFalsely : Prop := fnApartMatchesFlatScanRow.holds Try.pinned (OpenSpec.ofChange fnApartMatchesFlatScanWrong)

/-- 'zzlaws_sim_b1.FnApartSymmetric': WHATEVER THE INPUT: true; the input reads as it did. -/
def fnApartSymmetricSpec : ChangeSpec := { name := "fnApartSymmetric", fn := fun _ => fun
  | [d1, d2, d3, d4, d5, d6] => { results := [.lit (.bool true)], args := [d1, d2, d3, d4, d5, d6] }
  | _ => none }
def fnApartSymmetricRow : OpenClaim := { program := "qxb6001075a", sum := "b7585a190d0f35ebb62daf57a4bbd537fb6b240f2d98116c460179c2fcffe113", func := "example.com/tenure/tenure/zzlaws_sim_b1.FnApartSymmetric", spec := "fnApartSymmetric", apart := false }
def FnApartSymmetricSaid : Prop := fnApartSymmetricRow.holds Try.pinned (OpenSpec.ofChange fnApartSymmetricSpec)

/-- ITS FALSE NEIGHBOUR: 'it returns false'. Refute it at one input. -/
def fnApartSymmetricWrong : ChangeSpec := { name := "fnApartSymmetric", fn := fun _ => fun
  | [d1, d2, d3, d4, d5, d6] => { results := [.lit (.bool false)], args := [d1, d2, d3, d4, d5, d6] }
  | _ => none }
def FnApartSymmetricWrongFalsely : Prop := fnApartSymmetricRow.holds Try.pinned (OpenSpec.ofChange fnApartSymmetricWrong)

end Rows
end Go.Proofs.Qxb6001075a
