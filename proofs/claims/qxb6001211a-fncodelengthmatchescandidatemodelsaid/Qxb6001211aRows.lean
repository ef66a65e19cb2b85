/-
  No cell of these rows narrows 'for every input' (looked for: loops, veiled, ifaces, maps, wideKeys, modest, calm, conditions, laid).
  DERIVED. THE GIVEN ROWS OF THIS SEAT. 2 by the template 'for every input the law returns true; each argument reads behind the call as it read before'; 0 by the template 'total and deterministic' (their statements: Qxb6001211aTotals.lean).
  GIVEN WITH THE SEED: the statements are not yours to turn. If you find one false, say at which input.
  Laid BY PROGRAM, IN A SANDBOX (cutbox-rows.mjs): the forced cells as the released guide's own fill.sh prints them over the translation 7af97a4fc6eea766… (all of the seat's roots in one cut). By AI agents, Wed Nov 11 2026. No macro, syntax, notation, axiom, sorry.
-/
import Derived.Test.Qxb6001211aChecked
import GoSem.Claim
import GoSem.ClaimJoined
import GoSem.ClaimMapViews
import Derived.JoinedTies
import Derived.KernelRfl
namespace Go.Proofs.Qxb6001211a
/- THE CELL 'sum', in the pinned program and in every row, IS THE sha256 OF THE DUMP (.gsa) THAT Qxb6001211aProg.lean LOADS. Nothing in Lean hashes anything: it is a label: what it is worth is what the hold of that sum in a sandbox is worth. -/
noncomputable def Try.pinned : Pinned := { name := "qxb6001211a", sum := "7af97a4fc6eea766b0da05eac4a3dd309fda065ae6502f77aadbf91cd3166d14", checked := Try.checked }
namespace Rows
def none {H : Type} : Left H := { results := [], args := [] }

/-- 'zzlaws_pkg_table_b1.FnCodeLengthMatchesCandidateModel': WHATEVER THE INPUT: true; the input reads as it did. -/
def fnCodeLengthMatchesCandidateModelSpec : ChangeSpec := { name := "fnCodeLengthMatchesCandidateModel", fn := fun _ => fun
  | [d] => { results := [.lit (.bool true)], args := [d] }
  | _ => none }
def fnCodeLengthMatchesCandidateModelRow : OpenClaim := { program := "qxb6001211a", sum := "7af97a4fc6eea766b0da05eac4a3dd309fda065ae6502f77aadbf91cd3166d14", func := "example.com/tuoguan/tuoguan/zzlaws_pkg_table_b1.FnCodeLengthMatchesCandidateModel", spec := "fnCodeLengthMatchesCandidateModel", apart := false }
def FnCodeLengthMatchesCandidateModelSaid : Prop := fnCodeLengthMatchesCandidateModelRow.holds Try.pinned (OpenSpec.ofChange fnCodeLengthMatchesCandidateModelSpec)

/-- ITS FALSE NEIGHBOUR: 'it returns false'. Refute it at one input. -/
def fnCodeLengthMatchesCandidateModelWrong : ChangeSpec := { name := "fnCodeLengthMatchesCandidateModel", fn := fun _ => fun
  | [d] => { results := [.lit (.bool false)], args := [d] }
  | _ => none }
def FnCodeLengthMatchesCandidateModelWrongFalsely : Prop := fnCodeLengthMatchesCandidateModelRow.holds Try.pinned (OpenSpec.ofChange fnCodeLengthMatchesCandidateModelWrong)

/-- 'zzlaws_pkg_table_b1.FnCodeLengthDecidedByItsOwnBytes': WHATEVER THE INPUT: true; the input reads as it did. -/
def fnCodeLengthDecidedByItsOwnBytesSpec : ChangeSpec := { name := "fnCodeLengthDecidedByItsOwnBytes", fn := fun _ => fun
  | [d1, d2] => { results := [.lit (.bool true)], args := [d1, d2] }
  | _ => none }
def fnCodeLengthDecidedByItsOwnBytesRow : OpenClaim := { program := "qxb6001211a", sum := "7af97a4fc6eea766b0da05eac4a3dd309fda065ae6502f77aadbf91cd3166d14", func := "example.com/tuoguan/tuoguan/zzlaws_pkg_table_b1.FnCodeLengthDecidedByItsOwnBytes", spec := "fnCodeLengthDecidedByItsOwnBytes", apart := false }
def FnCodeLengthDecidedByItsOwnBytesSaid : Prop := fnCodeLengthDecidedByItsOwnBytesRow.holds Try.pinned (OpenSpec.ofChange fnCodeLengthDecidedByItsOwnBytesSpec)

/-- ITS FALSE NEIGHBOUR: 'it returns false'. Refute it at one input. -/
def fnCodeLengthDecidedByItsOwnBytesWrong : ChangeSpec := { name := "fnCodeLengthDecidedByItsOwnBytes", fn := fun _ => fun
  | [d1, d2] => { results := [.lit (.bool false)], args := [d1, d2] }
  | _ => none }
def FnCodeLengthDecidedByItsOwnBytesWrongFalsely : Prop := fnCodeLengthDecidedByItsOwnBytesRow.holds Try.pinned (OpenSpec.ofChange fnCodeLengthDecidedByItsOwnBytesWrong)

end Rows
end Go.Proofs.Qxb6001211a
