/-
  No cell of these rows narrows 'for every input' (looked for: loops, veiled, ifaces, maps, wideKeys, modest, calm, conditions, laid).
  DERIVED. THE GIVEN ROWS OF THIS SEAT. 3 by the template 'for every input the law returns true; each argument reads behind the call as it read before'; 0 by the template 'total and deterministic' (their statements: Qxb6001386aTotals.lean).
  GIVEN WITH THE SEED: the statements are not yours to turn. If you find one false, say at which input.
  Laid BY PROGRAM, IN A SANDBOX (cutbox-rows.mjs): the forced cells as the released guide's own fill.sh prints them over the translation f71560edf74ea558… (all of the seat's roots in one cut). By AI agents, Wed Nov 11 2026. No macro, syntax, notation, axiom, sorry.
-/
import Derived.Test.Qxb6001386aChecked
import GoSem.Claim
import GoSem.ClaimJoined
import GoSem.ClaimMapViews
import Derived.JoinedTies
import Derived.KernelRfl
namespace Go.Proofs.Qxb6001386a
/- THE CELL 'sum', in the pinned program and in every row, IS THE sha256 OF THE DUMP (.gsa) THAT Qxb6001386aProg.lean LOADS. Nothing in Lean hashes anything: it is a label: what it is worth is what the hold of that sum in a sandbox is worth. -/
noncomputable def Try.pinned : Pinned := { name := "qxb6001386a", sum := "f71560edf74ea558c33b872609a042a510555770d752682acc370fda96da7cb9", checked := Try.checked }
namespace Rows
def none {H : Type} : Left H := { results := [], args := [] }

/-- 'zzlaws_internal_csvfile_b1.FnHeaderIndexMatchesModel': WHATEVER THE INPUT: true; the input reads as it did. -/
def fnHeaderIndexMatchesModelSpec : ChangeSpec := { name := "fnHeaderIndexMatchesModel", fn := fun _ => fun
  | [d1, d2, d3] => { results := [.lit (.bool true)], args := [d1, d2, d3] }
  | _ => none }
def fnHeaderIndexMatchesModelRow : OpenClaim := { program := "qxb6001386a", sum := "f71560edf74ea558c33b872609a042a510555770d752682acc370fda96da7cb9", func := "example.com/tuoguan/tuoguan/zzlaws_internal_csvfile_b1.FnHeaderIndexMatchesModel", spec := "fnHeaderIndexMatchesModel", apart := false }
def FnHeaderIndexMatchesModelSaid : Prop := fnHeaderIndexMatchesModelRow.holds Try.pinned (OpenSpec.ofChange fnHeaderIndexMatchesModelSpec)

/-- ITS FALSE NEIGHBOUR: 'it returns false'. Refute it at one input. -/
def fnHeaderIndexMatchesModelWrong : ChangeSpec := { name := "fnHeaderIndexMatchesModel", fn := fun _ => fun
  | [d1, d2, d3] => { results := [.lit (.bool false)], args := [d1, d2, d3] }
  | _ => none }
def FnHeaderIndexMatchesModelWrongFalsely : Prop := fnHeaderIndexMatchesModelRow.holds Try.pinned (OpenSpec.ofChange fnHeaderIndexMatchesModelWrong)

/-- 'zzlaws_internal_csvfile_b1.FnHeaderIndexMirrorsReversal': WHATEVER THE INPUT: true; the input reads as it did. -/
def fnHeaderIndexMirrorsReversalSpec : ChangeSpec := { name := "fnHeaderIndexMirrorsReversal", fn := fun _ => fun
  | [d1, d2, d3] => { results := [.lit (.bool true)], args := [d1, d2, d3] }
  | _ => none }
def fnHeaderIndexMirrorsReversalRow : OpenClaim := { program := "qxb6001386a", sum := "f71560edf74ea558c33b872609a042a510555770d752682acc370fda96da7cb9", func := "example.com/tuoguan/tuoguan/zzlaws_internal_csvfile_b1.FnHeaderIndexMirrorsReversal", spec := "fnHeaderIndexMirrorsReversal", apart := false }
def FnHeaderIndexMirrorsReversalSaid : Prop := fnHeaderIndexMirrorsReversalRow.holds Try.pinned (OpenSpec.ofChange fnHeaderIndexMirrorsReversalSpec)

/-- ITS FALSE NEIGHBOUR: 'it returns false'. Refute it at one input. -/
def fnHeaderIndexMirrorsReversalWrong : ChangeSpec := { name := "fnHeaderIndexMirrorsReversal", fn := fun _ => fun
  | [d1, d2, d3] => { results := [.lit (.bool false)], args := [d1, d2, d3] }
  | _ => none }
def FnHeaderIndexMirrorsReversalWrongFalsely : Prop := fnHeaderIndexMirrorsReversalRow.holds Try.pinned (OpenSpec.ofChange fnHeaderIndexMirrorsReversalWrong)

/-- 'zzlaws_internal_csvfile_b1.FnFieldReadsCellByName': WHATEVER THE INPUT: true; the input reads as it did. -/
def fnFieldReadsCellByNameSpec : ChangeSpec := { name := "fnFieldReadsCellByName", fn := fun _ => fun
  | [d1, d2, d3] => { results := [.lit (.bool true)], args := [d1, d2, d3] }
  | _ => none }
def fnFieldReadsCellByNameRow : OpenClaim := { program := "qxb6001386a", sum := "f71560edf74ea558c33b872609a042a510555770d752682acc370fda96da7cb9", func := "example.com/tuoguan/tuoguan/zzlaws_internal_csvfile_b1.FnFieldReadsCellByName", spec := "fnFieldReadsCellByName", apart := false }
def FnFieldReadsCellByNameSaid : Prop := fnFieldReadsCellByNameRow.holds Try.pinned (OpenSpec.ofChange fnFieldReadsCellByNameSpec)

/-- ITS FALSE NEIGHBOUR: 'it returns false'. Refute it at one input. -/
def fnFieldReadsCellByNameWrong : ChangeSpec := { name := "fnFieldReadsCellByName", fn := fun _ => fun
  | [d1, d2, d3] => { results := [.lit (.bool false)], args := [d1, d2, d3] }
  | _ => none }
def FnFieldReadsCellByNameWrongFalsely : Prop := fnFieldReadsCellByNameRow.holds Try.pinned (OpenSpec.ofChange fnFieldReadsCellByNameWrong)

end Rows
end Go.Proofs.Qxb6001386a
