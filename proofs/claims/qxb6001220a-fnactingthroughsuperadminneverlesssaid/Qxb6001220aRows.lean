/-
  No cell of these rows narrows 'for every input' (looked for: loops, veiled, ifaces, maps, wideKeys, modest, calm, conditions, laid).
  DERIVED. THE GIVEN ROWS OF THIS SEAT. 5 by the template 'for every input the law returns true; each argument reads behind the call as it read before'; 0 by the template 'total and deterministic' (their statements: Qxb6001220aTotals.lean).
  GIVEN WITH THE SEED: the statements are not yours to turn. If you find one false, say at which input.
  Laid BY PROGRAM, IN A SANDBOX (cutbox-rows.mjs): the forced cells as the released guide's own fill.sh prints them over the translation 84fd59d2a8b4a534… (all of the seat's roots in one cut). By AI agents, Wed Nov 11 2026. No macro, syntax, notation, axiom, sorry.
-/
import Derived.Test.Qxb6001220aChecked
import GoSem.Claim
import GoSem.ClaimJoined
import GoSem.ClaimMapViews
import Derived.JoinedTies
import Derived.KernelRfl
namespace Go.Proofs.Qxb6001220a
/- THE CELL 'sum', in the pinned program and in every row, IS THE sha256 OF THE DUMP (.gsa) THAT Qxb6001220aProg.lean LOADS. Nothing in Lean hashes anything: it is a label: what it is worth is what the hold of that sum in a sandbox is worth. -/
noncomputable def Try.pinned : Pinned := { name := "qxb6001220a", sum := "84fd59d2a8b4a5343fec25282f9cb10044561fef8be4205cc6494fa2b8660c36", checked := Try.checked }
namespace Rows
def none {H : Type} : Left H := { results := [], args := [] }

/-- 'zzlaws_internal_access_b1.FnValidLabelReversal': WHATEVER THE INPUT: true; the input reads as it did. -/
def fnValidLabelReversalSpec : ChangeSpec := { name := "fnValidLabelReversal", fn := fun _ => fun
  | [d] => { results := [.lit (.bool true)], args := [d] }
  | _ => none }
def fnValidLabelReversalRow : OpenClaim := { program := "qxb6001220a", sum := "84fd59d2a8b4a5343fec25282f9cb10044561fef8be4205cc6494fa2b8660c36", func := "example.com/trefoil/trefoil/zzlaws_internal_access_b1.FnValidLabelReversal", spec := "fnValidLabelReversal", apart := false }
def FnValidLabelReversalSaid : Prop := fnValidLabelReversalRow.holds Try.pinned (OpenSpec.ofChange fnValidLabelReversalSpec)

/-- ITS FALSE NEIGHBOUR: 'it returns false'. Refute it at one input. -/
def fnValidLabelReversalWrong : ChangeSpec := { name := "fnValidLabelReversal", fn := fun _ => fun
  | [d] => { results := [.lit (.bool false)], args := [d] }
  | _ => none }
def FnValidLabelReversalWrongFalsely : Prop := fnValidLabelReversalRow.holds Try.pinned (OpenSpec.ofChange fnValidLabelReversalWrong)

/-- 'zzlaws_internal_access_b1.FnValidLabelJoin': WHATEVER THE INPUT: true; the input reads as it did. -/
def fnValidLabelJoinSpec : ChangeSpec := { name := "fnValidLabelJoin", fn := fun _ => fun
  | [d1, d2] => { results := [.lit (.bool true)], args := [d1, d2] }
  | _ => none }
def fnValidLabelJoinRow : OpenClaim := { program := "qxb6001220a", sum := "84fd59d2a8b4a5343fec25282f9cb10044561fef8be4205cc6494fa2b8660c36", func := "example.com/trefoil/trefoil/zzlaws_internal_access_b1.FnValidLabelJoin", spec := "fnValidLabelJoin", apart := false }
def FnValidLabelJoinSaid : Prop := fnValidLabelJoinRow.holds Try.pinned (OpenSpec.ofChange fnValidLabelJoinSpec)

/-- ITS FALSE NEIGHBOUR: 'it returns false'. Refute it at one input. -/
def fnValidLabelJoinWrong : ChangeSpec := { name := "fnValidLabelJoin", fn := fun _ => fun
  | [d1, d2] => { results := [.lit (.bool false)], args := [d1, d2] }
  | _ => none }
def FnValidLabelJoinWrongFalsely : Prop := fnValidLabelJoinRow.holds Try.pinned (OpenSpec.ofChange fnValidLabelJoinWrong)

/-- 'zzlaws_internal_access_b1.FnValidLabelRefusals': WHATEVER THE INPUT: true; the input reads as it did. -/
def fnValidLabelRefusalsSpec : ChangeSpec := { name := "fnValidLabelRefusals", fn := fun _ => fun
  | [d] => { results := [.lit (.bool true)], args := [d] }
  | _ => none }
def fnValidLabelRefusalsRow : OpenClaim := { program := "qxb6001220a", sum := "84fd59d2a8b4a5343fec25282f9cb10044561fef8be4205cc6494fa2b8660c36", func := "example.com/trefoil/trefoil/zzlaws_internal_access_b1.FnValidLabelRefusals", spec := "fnValidLabelRefusals", apart := false }
def FnValidLabelRefusalsSaid : Prop := fnValidLabelRefusalsRow.holds Try.pinned (OpenSpec.ofChange fnValidLabelRefusalsSpec)

/-- ITS FALSE NEIGHBOUR: 'it returns false'. Refute it at one input. -/
def fnValidLabelRefusalsWrong : ChangeSpec := { name := "fnValidLabelRefusals", fn := fun _ => fun
  | [d] => { results := [.lit (.bool false)], args := [d] }
  | _ => none }
def FnValidLabelRefusalsWrongFalsely : Prop := fnValidLabelRefusalsRow.holds Try.pinned (OpenSpec.ofChange fnValidLabelRefusalsWrong)

/-- 'zzlaws_internal_access_b1.FnActingThroughSuperAdminNeverLess': WHATEVER THE INPUT: true; the input reads as it did. -/
def fnActingThroughSuperAdminNeverLessSpec : ChangeSpec := { name := "fnActingThroughSuperAdminNeverLess", fn := fun _ => fun
  | [d1, d2, d3, d4] => { results := [.lit (.bool true)], args := [d1, d2, d3, d4] }
  | _ => none }
def fnActingThroughSuperAdminNeverLessRow : OpenClaim := { program := "qxb6001220a", sum := "84fd59d2a8b4a5343fec25282f9cb10044561fef8be4205cc6494fa2b8660c36", func := "example.com/trefoil/trefoil/zzlaws_internal_access_b1.FnActingThroughSuperAdminNeverLess", spec := "fnActingThroughSuperAdminNeverLess", apart := false }
def FnActingThroughSuperAdminNeverLessSaid : Prop := fnActingThroughSuperAdminNeverLessRow.holds Try.pinned (OpenSpec.ofChange fnActingThroughSuperAdminNeverLessSpec)

/-- ITS FALSE NEIGHBOUR: 'it returns false'. Refute it at one input. -/
def fnActingThroughSuperAdminNeverLessWrong : ChangeSpec := { name := "fnActingThroughSuperAdminNeverLess", fn := fun _ => fun
  | [d1, d2, d3, d4] => { results := [.lit (.bool false)], args := [d1, d2, d3, d4] }
  | _ => none }
def FnActingThroughSuperAdminNeverLessWrongFalsely : Prop := fnActingThroughSuperAdminNeverLessRow.holds Try.pinned (OpenSpec.ofChange fnActingThroughSuperAdminNeverLessWrong)

/-- 'zzlaws_internal_access_b1.FnActingThroughIgnoresOtherMemberships': WHATEVER THE INPUT: true; the input reads as it did. -/
def fnActingThroughIgnoresOtherMembershipsSpec : ChangeSpec := { name := "fnActingThroughIgnoresOtherMemberships", fn := fun _ => fun
  | [d1, d2, d3, d4, d5, d6, d7, d8] => { results := [.lit (.bool true)], args := [d1, d2, d3, d4, d5, d6, d7, d8] }
  | _ => none }
def fnActingThroughIgnoresOtherMembershipsRow : OpenClaim := { program := "qxb6001220a", sum := "84fd59d2a8b4a5343fec25282f9cb10044561fef8be4205cc6494fa2b8660c36", func := "example.com/trefoil/trefoil/zzlaws_internal_access_b1.FnActingThroughIgnoresOtherMemberships", spec := "fnActingThroughIgnoresOtherMemberships", apart := false }
def FnActingThroughIgnoresOtherMembershipsSaid : Prop := fnActingThroughIgnoresOtherMembershipsRow.holds Try.pinned (OpenSpec.ofChange fnActingThroughIgnoresOtherMembershipsSpec)

/-- ITS FALSE NEIGHBOUR: 'it returns false'. Refute it at one input. -/
def fnActingThroughIgnoresOtherMembershipsWrong : ChangeSpec := { name := "fnActingThroughIgnoresOtherMemberships", fn := fun _ => fun
  | [d1, d2, d3, d4, d5, d6, d7, d8] => { results := [.lit (.bool false)], args := [d1, d2, d3, d4, d5, d6, d7, d8] }
  | _ => none }
def FnActingThroughIgnoresOtherMembershipsWrongFalsely : Prop := fnActingThroughIgnoresOtherMembershipsRow.holds Try.pinned (OpenSpec.ofChange fnActingThroughIgnoresOtherMembershipsWrong)

end Rows
end Go.Proofs.Qxb6001220a
