/-
  No cell of these rows narrows 'for every input' (looked for: loops, veiled, ifaces, maps, wideKeys, modest, calm, conditions, laid).
  DERIVED. THE GIVEN ROWS OF THIS SEAT. 2 by the template 'for every input the law returns true; each argument reads behind the call as it read before'; 0 by the template 'total and deterministic' (their statements: Qxb6616914aTotals.lean).
  GIVEN WITH THE SEED: the statements are not yours to turn. If you find one false, say at which input.
  Laid BY PROGRAM, IN A SANDBOX (cutbox-rows.mjs): the forced cells as the released guide's own fill.sh prints them over the translation 9b3af02f47894941… (all of the seat's roots in one cut). By AI agents, Wed Nov 11 2026. No macro, syntax, notation, axiom, sorry.
-/
import Derived.Test.Qxb6616914aChecked
import GoSem.Claim
import GoSem.ClaimJoined
import GoSem.ClaimMapViews
import Derived.JoinedTies
import Derived.KernelRfl
namespace Go.Proofs.Qxb6616914a
/- THE CELL 'sum', in the pinned program and in every row, IS THE sha256 OF THE DUMP (.gsa) THAT Qxb6616914aProg.lean LOADS. Nothing in Lean hashes anything: it is a label: what it is worth is what the hold of that sum in a sandbox is worth. -/
noncomputable def Try.pinned : Pinned := { name := "qxb6616914a", sum := "9b3af02f478949416e2c29a16aa4f4e39e062822a06d140582b8cc365fee26dd", checked := Try.checked }
namespace Rows
def none {H : Type} : Left H := { results := [], args := [] }

/-- 'zzlaws_root_b1.FnClampLongIsGreatestNonNegativeNotAbove': WHATEVER THE INPUT: true; the input reads as it did. -/
def fnClampLongIsGreatestNonNegativeNotAboveSpec : ChangeSpec := { name := "fnClampLongIsGreatestNonNegativeNotAbove", fn := fun _ => fun
  | [d] => { results := [.lit (.bool true)], args := [d] }
  | _ => none }
def fnClampLongIsGreatestNonNegativeNotAboveRow : OpenClaim := { program := "qxb6616914a", sum := "9b3af02f478949416e2c29a16aa4f4e39e062822a06d140582b8cc365fee26dd", func := "example.com/scopewright/scopewright/zzlaws_root_b1.FnClampLongIsGreatestNonNegativeNotAbove", spec := "fnClampLongIsGreatestNonNegativeNotAbove", apart := false }
def FnClampLongIsGreatestNonNegativeNotAboveSaid : Prop := fnClampLongIsGreatestNonNegativeNotAboveRow.holds Try.pinned (OpenSpec.ofChange fnClampLongIsGreatestNonNegativeNotAboveSpec)

/-- ITS FALSE NEIGHBOUR: 'it returns false'. Refute it at one input. -/
def fnClampLongIsGreatestNonNegativeNotAboveWrong : ChangeSpec := { name := "fnClampLongIsGreatestNonNegativeNotAbove", fn := fun _ => fun
  | [d] => { results := [.lit (.bool false)], args := [d] }
  | _ => none }
def FnClampLongIsGreatestNonNegativeNotAboveWrongFalsely : Prop := fnClampLongIsGreatestNonNegativeNotAboveRow.holds Try.pinned (OpenSpec.ofChange fnClampLongIsGreatestNonNegativeNotAboveWrong)

/-- 'zzlaws_root_b1.FnClampLongRisesByStepsUntilTop': WHATEVER THE INPUT: true; the input reads as it did. -/
def fnClampLongRisesByStepsUntilTopSpec : ChangeSpec := { name := "fnClampLongRisesByStepsUntilTop", fn := fun _ => fun
  | [d1, d2] => { results := [.lit (.bool true)], args := [d1, d2] }
  | _ => none }
def fnClampLongRisesByStepsUntilTopRow : OpenClaim := { program := "qxb6616914a", sum := "9b3af02f478949416e2c29a16aa4f4e39e062822a06d140582b8cc365fee26dd", func := "example.com/scopewright/scopewright/zzlaws_root_b1.FnClampLongRisesByStepsUntilTop", spec := "fnClampLongRisesByStepsUntilTop", apart := false }
def FnClampLongRisesByStepsUntilTopSaid : Prop := fnClampLongRisesByStepsUntilTopRow.holds Try.pinned (OpenSpec.ofChange fnClampLongRisesByStepsUntilTopSpec)

/-- ITS FALSE NEIGHBOUR: 'it returns false'. Refute it at one input. -/
def fnClampLongRisesByStepsUntilTopWrong : ChangeSpec := { name := "fnClampLongRisesByStepsUntilTop", fn := fun _ => fun
  | [d1, d2] => { results := [.lit (.bool false)], args := [d1, d2] }
  | _ => none }
def FnClampLongRisesByStepsUntilTopWrongFalsely : Prop := fnClampLongRisesByStepsUntilTopRow.holds Try.pinned (OpenSpec.ofChange fnClampLongRisesByStepsUntilTopWrong)

end Rows
end Go.Proofs.Qxb6616914a
