/-
  No cell of these rows narrows 'for every input' (looked for: loops, veiled, ifaces, maps, wideKeys, modest, calm, conditions, laid).
  DERIVED. THE GIVEN ROWS OF THIS SEAT. 4 by the template 'for every input the law returns true; each argument reads behind the call as it read before'; 0 by the template 'total and deterministic' (their statements: Qxb6618980aTotals.lean).
  GIVEN WITH THE SEED: the statements are not yours to turn. If you find one false, say at which input.
  Laid BY PROGRAM, IN A SANDBOX (cutbox-rows.mjs): the forced cells as the released guide's own fill.sh prints them over the translation 053d15a0e773161a… (all of the seat's roots in one cut). By AI agents, Wed Nov 11 2026. No macro, syntax, notation, axiom, sorry.
-/
import Derived.Test.Qxb6618980aChecked
import GoSem.Claim
import GoSem.ClaimJoined
import GoSem.ClaimMapViews
import Derived.JoinedTies
import Derived.KernelRfl
namespace Go.Proofs.Qxb6618980a
/- THE CELL 'sum', in the pinned program and in every row, IS THE sha256 OF THE DUMP (.gsa) THAT Qxb6618980aProg.lean LOADS. Nothing in Lean hashes anything: it is a label: what it is worth is what the hold of that sum in a sandbox is worth. -/
noncomputable def Try.pinned : Pinned := { name := "qxb6618980a", sum := "053d15a0e773161a44b4fc4a251c9a4dee54519ca59b5a2eb0521a69bfb7cd3d", checked := Try.checked }
namespace Rows
def none {H : Type} : Left H := { results := [], args := [] }

/-- 'zzlaws_sim_b1.FnLoseBetweenDropsExactlyTheLink': WHATEVER THE INPUT: true; the input reads as it did. -/
def fnLoseBetweenDropsExactlyTheLinkSpec : ChangeSpec := { name := "fnLoseBetweenDropsExactlyTheLink", fn := fun _ => fun
  | [d1, d2, d3] => { results := [.lit (.bool true)], args := [d1, d2, d3] }
  | _ => none }
def fnLoseBetweenDropsExactlyTheLinkRow : OpenClaim := { program := "qxb6618980a", sum := "053d15a0e773161a44b4fc4a251c9a4dee54519ca59b5a2eb0521a69bfb7cd3d", func := "example.com/helmline/helmline/zzlaws_sim_b1.FnLoseBetweenDropsExactlyTheLink", spec := "fnLoseBetweenDropsExactlyTheLink", unfollowed := true, recurses := true, plainKeys := false, apart := false }
def FnLoseBetweenDropsExactlyTheLinkSaid : Prop := fnLoseBetweenDropsExactlyTheLinkRow.holds Try.pinned (OpenSpec.ofChange fnLoseBetweenDropsExactlyTheLinkSpec)

/-- ITS FALSE NEIGHBOUR: 'it returns false'. Refute it at one input. -/
def fnLoseBetweenDropsExactlyTheLinkWrong : ChangeSpec := { name := "fnLoseBetweenDropsExactlyTheLink", fn := fun _ => fun
  | [d1, d2, d3] => { results := [.lit (.bool false)], args := [d1, d2, d3] }
  | _ => none }
def FnLoseBetweenDropsExactlyTheLinkWrongFalsely : Prop := fnLoseBetweenDropsExactlyTheLinkRow.holds Try.pinned (OpenSpec.ofChange fnLoseBetweenDropsExactlyTheLinkWrong)

/-- 'zzlaws_sim_b1.FnLoseBetweenOrderFreeAndIdempotent': WHATEVER THE INPUT: true; the input reads as it did. -/
def fnLoseBetweenOrderFreeAndIdempotentSpec : ChangeSpec := { name := "fnLoseBetweenOrderFreeAndIdempotent", fn := fun _ => fun
  | [d1, d2, d3, d4, d5] => { results := [.lit (.bool true)], args := [d1, d2, d3, d4, d5] }
  | _ => none }
def fnLoseBetweenOrderFreeAndIdempotentRow : OpenClaim := { program := "qxb6618980a", sum := "053d15a0e773161a44b4fc4a251c9a4dee54519ca59b5a2eb0521a69bfb7cd3d", func := "example.com/helmline/helmline/zzlaws_sim_b1.FnLoseBetweenOrderFreeAndIdempotent", spec := "fnLoseBetweenOrderFreeAndIdempotent", unfollowed := true, recurses := true, plainKeys := false, apart := false }
def FnLoseBetweenOrderFreeAndIdempotentSaid : Prop := fnLoseBetweenOrderFreeAndIdempotentRow.holds Try.pinned (OpenSpec.ofChange fnLoseBetweenOrderFreeAndIdempotentSpec)

/-- ITS FALSE NEIGHBOUR: 'it returns false'. Refute it at one input. -/
def fnLoseBetweenOrderFreeAndIdempotentWrong : ChangeSpec := { name := "fnLoseBetweenOrderFreeAndIdempotent", fn := fun _ => fun
  | [d1, d2, d3, d4, d5] => { results := [.lit (.bool false)], args := [d1, d2, d3, d4, d5] }
  | _ => none }
def FnLoseBetweenOrderFreeAndIdempotentWrongFalsely : Prop := fnLoseBetweenOrderFreeAndIdempotentRow.holds Try.pinned (OpenSpec.ofChange fnLoseBetweenOrderFreeAndIdempotentWrong)

/-- 'zzlaws_sim_b1.FnApplyAcceptsExactlyTheNextIndex': WHATEVER THE INPUT: true; the input reads as it did. -/
def fnApplyAcceptsExactlyTheNextIndexSpec : ChangeSpec := { name := "fnApplyAcceptsExactlyTheNextIndex", fn := fun _ => fun
  | [d] => { results := [.lit (.bool true)], args := [d] }
  | _ => none }
def fnApplyAcceptsExactlyTheNextIndexRow : OpenClaim := { program := "qxb6618980a", sum := "053d15a0e773161a44b4fc4a251c9a4dee54519ca59b5a2eb0521a69bfb7cd3d", func := "example.com/helmline/helmline/zzlaws_sim_b1.FnApplyAcceptsExactlyTheNextIndex", spec := "fnApplyAcceptsExactlyTheNextIndex", unfollowed := true, recurses := true, named := ["encoding/binary.BigEndian"], plainKeys := false, apart := false }
def FnApplyAcceptsExactlyTheNextIndexSaid : Prop := fnApplyAcceptsExactlyTheNextIndexRow.holds Try.pinned (OpenSpec.ofChange fnApplyAcceptsExactlyTheNextIndexSpec)

/-- ITS FALSE NEIGHBOUR: 'it returns false'. Refute it at one input. -/
def fnApplyAcceptsExactlyTheNextIndexWrong : ChangeSpec := { name := "fnApplyAcceptsExactlyTheNextIndex", fn := fun _ => fun
  | [d] => { results := [.lit (.bool false)], args := [d] }
  | _ => none }
def FnApplyAcceptsExactlyTheNextIndexWrongFalsely : Prop := fnApplyAcceptsExactlyTheNextIndexRow.holds Try.pinned (OpenSpec.ofChange fnApplyAcceptsExactlyTheNextIndexWrong)

/-- 'zzlaws_sim_b1.FnApplySkippedEntriesLeaveNoTrace': WHATEVER THE INPUT: true; the input reads as it did. -/
def fnApplySkippedEntriesLeaveNoTraceSpec : ChangeSpec := { name := "fnApplySkippedEntriesLeaveNoTrace", fn := fun _ => fun
  | [d] => { results := [.lit (.bool true)], args := [d] }
  | _ => none }
def fnApplySkippedEntriesLeaveNoTraceRow : OpenClaim := { program := "qxb6618980a", sum := "053d15a0e773161a44b4fc4a251c9a4dee54519ca59b5a2eb0521a69bfb7cd3d", func := "example.com/helmline/helmline/zzlaws_sim_b1.FnApplySkippedEntriesLeaveNoTrace", spec := "fnApplySkippedEntriesLeaveNoTrace", unfollowed := true, recurses := true, named := ["encoding/binary.BigEndian"], plainKeys := false, apart := false }
def FnApplySkippedEntriesLeaveNoTraceSaid : Prop := fnApplySkippedEntriesLeaveNoTraceRow.holds Try.pinned (OpenSpec.ofChange fnApplySkippedEntriesLeaveNoTraceSpec)

/-- ITS FALSE NEIGHBOUR: 'it returns false'. Refute it at one input. -/
def fnApplySkippedEntriesLeaveNoTraceWrong : ChangeSpec := { name := "fnApplySkippedEntriesLeaveNoTrace", fn := fun _ => fun
  | [d] => { results := [.lit (.bool false)], args := [d] }
  | _ => none }
def FnApplySkippedEntriesLeaveNoTraceWrongFalsely : Prop := fnApplySkippedEntriesLeaveNoTraceRow.holds Try.pinned (OpenSpec.ofChange fnApplySkippedEntriesLeaveNoTraceWrong)

end Rows
end Go.Proofs.Qxb6618980a
