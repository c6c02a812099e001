/-
  No cell of these rows narrows 'for every input' (looked for: loops, veiled, ifaces, maps, wideKeys, modest, calm, conditions, laid).
  DERIVED. THE GIVEN ROWS OF THIS SEAT. 1 by the template 'for every input the law returns true; each argument reads behind the call as it read before'; 0 by the template 'total and deterministic' (their statements: Qxb6615524aTotals.lean).
  GIVEN WITH THE SEED: the statements are not yours to turn. If you find one false, say at which input.
  Laid BY PROGRAM, IN A SANDBOX (cutbox-rows.mjs): the forced cells as the released guide's own fill.sh prints them over the translation 956f9b50e8c23d08… (all of the seat's roots in one cut). By AI agents, Wed Nov 11 2026. No macro, syntax, notation, axiom, sorry.
-/
import Derived.Test.Qxb6615524aChecked
import GoSem.Claim
import GoSem.ClaimJoined
import GoSem.ClaimMapViews
import Derived.JoinedTies
import Derived.KernelRfl
namespace Go.Proofs.Qxb6615524a
/- THE CELL 'sum', in the pinned program and in every row, IS THE sha256 OF THE DUMP (.gsa) THAT Qxb6615524aProg.lean LOADS. Nothing in Lean hashes anything: it is a label: what it is worth is what the hold of that sum in a sandbox is worth. -/
noncomputable def Try.pinned : Pinned := { name := "qxb6615524a", sum := "956f9b50e8c23d08c969e91e459e57b182dcc476d4ec56bbf8c539561e76a73f", checked := Try.checked }
namespace Rows
def none {H : Type} : Left H := { results := [], args := [] }

/-- 'zzlaws_review_b1.FnPricesFileIsTheMarketsOwnFreshSlot': WHATEVER THE INPUT: true; the input reads as it did. -/
def fnPricesFileIsTheMarketsOwnFreshSlotSpec : ChangeSpec := { name := "fnPricesFileIsTheMarketsOwnFreshSlot", fn := fun _ => fun
  | [d] => { results := [.lit (.bool true)], args := [d] }
  | _ => none }
def fnPricesFileIsTheMarketsOwnFreshSlotRow : OpenClaim := { program := "qxb6615524a", sum := "956f9b50e8c23d08c969e91e459e57b182dcc476d4ec56bbf8c539561e76a73f", func := "example.com/tuoguan/tuoguan/zzlaws_review_b1.FnPricesFileIsTheMarketsOwnFreshSlot", spec := "fnPricesFileIsTheMarketsOwnFreshSlot", plainKeys := false, apart := false }
def FnPricesFileIsTheMarketsOwnFreshSlotSaid : Prop := fnPricesFileIsTheMarketsOwnFreshSlotRow.holds Try.pinned (OpenSpec.ofChange fnPricesFileIsTheMarketsOwnFreshSlotSpec)

/-- ITS FALSE NEIGHBOUR: 'it returns false'. Refute it at one input. -/
def fnPricesFileIsTheMarketsOwnFreshSlotWrong : ChangeSpec := { name := "fnPricesFileIsTheMarketsOwnFreshSlot", fn := fun _ => fun
  | [d] => { results := [.lit (.bool false)], args := [d] }
  | _ => none }
def FnPricesFileIsTheMarketsOwnFreshSlotWrongFalsely : Prop := fnPricesFileIsTheMarketsOwnFreshSlotRow.holds Try.pinned (OpenSpec.ofChange fnPricesFileIsTheMarketsOwnFreshSlotWrong)

end Rows
end Go.Proofs.Qxb6615524a
