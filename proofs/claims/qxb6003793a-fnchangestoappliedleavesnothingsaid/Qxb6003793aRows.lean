/-
  No cell of these rows narrows 'for every input' (looked for: loops, veiled, ifaces, maps, wideKeys, modest, calm, conditions, laid).
  DERIVED. THE GIVEN ROWS OF THIS SEAT. 4 by the template 'for every input the law returns true; each argument reads behind the call as it read before'; 0 by the template 'total and deterministic' (their statements: Qxb6003793aTotals.lean).
  GIVEN WITH THE SEED: the statements are not yours to turn. If you find one false, say at which input.
  Laid BY PROGRAM, IN A SANDBOX (cutbox-rows.mjs): the forced cells as the released guide's own fill.sh prints them over the translation 1a7c9161704795e9… (all of the seat's roots in one cut). By AI agents, Wed Nov 11 2026. No macro, syntax, notation, axiom, sorry.
-/
import Derived.Test.Qxb6003793aChecked
import GoSem.Claim
import GoSem.ClaimJoined
import GoSem.ClaimMapViews
import Derived.JoinedTies
import Derived.KernelRfl
namespace Go.Proofs.Qxb6003793a
/- THE CELL 'sum', in the pinned program and in every row, IS THE sha256 OF THE DUMP (.gsa) THAT Qxb6003793aProg.lean LOADS. Nothing in Lean hashes anything: it is a label: what it is worth is what the hold of that sum in a sandbox is worth. -/
noncomputable def Try.pinned : Pinned := { name := "qxb6003793a", sum := "1a7c9161704795e9bc7d4936af677b87d27510e2e9bea7dabc68991fbdace61d", checked := Try.checked }
namespace Rows
def none {H : Type} : Left H := { results := [], args := [] }

/-- 'zzlaws_agent_g1.FnMakeRoomEvictsOldest': WHATEVER THE INPUT: true; the input reads as it did. -/
def fnMakeRoomEvictsOldestSpec : ChangeSpec := { name := "fnMakeRoomEvictsOldest", fn := fun _ => fun
  | [d] => { results := [.lit (.bool true)], args := [d] }
  | _ => none }
def fnMakeRoomEvictsOldestRow : OpenClaim := { program := "qxb6003793a", sum := "1a7c9161704795e9bc7d4936af677b87d27510e2e9bea7dabc68991fbdace61d", func := "example.com/riftwatch/riftwatch/zzlaws_agent_g1.FnMakeRoomEvictsOldest", spec := "fnMakeRoomEvictsOldest", apart := false }
def FnMakeRoomEvictsOldestSaid : Prop := fnMakeRoomEvictsOldestRow.holds Try.pinned (OpenSpec.ofChange fnMakeRoomEvictsOldestSpec)

/-- ITS FALSE NEIGHBOUR: 'it returns false'. Refute it at one input. -/
def fnMakeRoomEvictsOldestWrong : ChangeSpec := { name := "fnMakeRoomEvictsOldest", fn := fun _ => fun
  | [d] => { results := [.lit (.bool false)], args := [d] }
  | _ => none }
def FnMakeRoomEvictsOldestWrongFalsely : Prop := fnMakeRoomEvictsOldestRow.holds Try.pinned (OpenSpec.ofChange fnMakeRoomEvictsOldestWrong)

/-- 'zzlaws_internal_daemon_g1.FnChangesToMatchesBruteForce': WHATEVER THE INPUT: true; the input reads as it did. -/
def fnChangesToMatchesBruteForceSpec : ChangeSpec := { name := "fnChangesToMatchesBruteForce", fn := fun _ => fun
  | [d1, d2, d3, d4, d5, d6] => { results := [.lit (.bool true)], args := [d1, d2, d3, d4, d5, d6] }
  | _ => none }
def fnChangesToMatchesBruteForceRow : OpenClaim := { program := "qxb6003793a", sum := "1a7c9161704795e9bc7d4936af677b87d27510e2e9bea7dabc68991fbdace61d", func := "example.com/riftwatch/riftwatch/zzlaws_internal_daemon_g1.FnChangesToMatchesBruteForce", spec := "fnChangesToMatchesBruteForce", recurses := true, apart := false }
def FnChangesToMatchesBruteForceSaid : Prop := fnChangesToMatchesBruteForceRow.holds Try.pinned (OpenSpec.ofChange fnChangesToMatchesBruteForceSpec)

/-- ITS FALSE NEIGHBOUR: 'it returns false'. Refute it at one input. -/
def fnChangesToMatchesBruteForceWrong : ChangeSpec := { name := "fnChangesToMatchesBruteForce", fn := fun _ => fun
  | [d1, d2, d3, d4, d5, d6] => { results := [.lit (.bool false)], args := [d1, d2, d3, d4, d5, d6] }
  | _ => none }
def FnChangesToMatchesBruteForceWrongFalsely : Prop := fnChangesToMatchesBruteForceRow.holds Try.pinned (OpenSpec.ofChange fnChangesToMatchesBruteForceWrong)

/-- 'zzlaws_internal_daemon_g1.FnChangesToAppliedLeavesNothing': WHATEVER THE INPUT: true; the input reads as it did. -/
def fnChangesToAppliedLeavesNothingSpec : ChangeSpec := { name := "fnChangesToAppliedLeavesNothing", fn := fun _ => fun
  | [d1, d2, d3, d4, d5, d6] => { results := [.lit (.bool true)], args := [d1, d2, d3, d4, d5, d6] }
  | _ => none }
def fnChangesToAppliedLeavesNothingRow : OpenClaim := { program := "qxb6003793a", sum := "1a7c9161704795e9bc7d4936af677b87d27510e2e9bea7dabc68991fbdace61d", func := "example.com/riftwatch/riftwatch/zzlaws_internal_daemon_g1.FnChangesToAppliedLeavesNothing", spec := "fnChangesToAppliedLeavesNothing", recurses := true, apart := false }
def FnChangesToAppliedLeavesNothingSaid : Prop := fnChangesToAppliedLeavesNothingRow.holds Try.pinned (OpenSpec.ofChange fnChangesToAppliedLeavesNothingSpec)

/-- ITS FALSE NEIGHBOUR: 'it returns false'. Refute it at one input. -/
def fnChangesToAppliedLeavesNothingWrong : ChangeSpec := { name := "fnChangesToAppliedLeavesNothing", fn := fun _ => fun
  | [d1, d2, d3, d4, d5, d6] => { results := [.lit (.bool false)], args := [d1, d2, d3, d4, d5, d6] }
  | _ => none }
def FnChangesToAppliedLeavesNothingWrongFalsely : Prop := fnChangesToAppliedLeavesNothingRow.holds Try.pinned (OpenSpec.ofChange fnChangesToAppliedLeavesNothingWrong)

/-- 'zzlaws_internal_daemon_g1.FnChangesToSwapsBetweenTwoViews': WHATEVER THE INPUT: true; the input reads as it did. -/
def fnChangesToSwapsBetweenTwoViewsSpec : ChangeSpec := { name := "fnChangesToSwapsBetweenTwoViews", fn := fun _ => fun
  | [d1, d2, d3, d4, d5, d6, d7, d8] => { results := [.lit (.bool true)], args := [d1, d2, d3, d4, d5, d6, d7, d8] }
  | _ => none }
def fnChangesToSwapsBetweenTwoViewsRow : OpenClaim := { program := "qxb6003793a", sum := "1a7c9161704795e9bc7d4936af677b87d27510e2e9bea7dabc68991fbdace61d", func := "example.com/riftwatch/riftwatch/zzlaws_internal_daemon_g1.FnChangesToSwapsBetweenTwoViews", spec := "fnChangesToSwapsBetweenTwoViews", recurses := true, apart := false }
def FnChangesToSwapsBetweenTwoViewsSaid : Prop := fnChangesToSwapsBetweenTwoViewsRow.holds Try.pinned (OpenSpec.ofChange fnChangesToSwapsBetweenTwoViewsSpec)

/-- ITS FALSE NEIGHBOUR: 'it returns false'. Refute it at one input. -/
def fnChangesToSwapsBetweenTwoViewsWrong : ChangeSpec := { name := "fnChangesToSwapsBetweenTwoViews", fn := fun _ => fun
  | [d1, d2, d3, d4, d5, d6, d7, d8] => { results := [.lit (.bool false)], args := [d1, d2, d3, d4, d5, d6, d7, d8] }
  | _ => none }
def FnChangesToSwapsBetweenTwoViewsWrongFalsely : Prop := fnChangesToSwapsBetweenTwoViewsRow.holds Try.pinned (OpenSpec.ofChange fnChangesToSwapsBetweenTwoViewsWrong)

end Rows
end Go.Proofs.Qxb6003793a
