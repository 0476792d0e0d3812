/-
  No cell of these rows narrows 'for every input' (looked for: loops, veiled, ifaces, maps, wideKeys, modest, calm, conditions, laid).
  DERIVED. THE GIVEN ROWS OF THIS SEAT. 4 by the template 'for every input the law returns true; each argument reads behind the call as it read before'; 0 by the template 'total and deterministic' (their statements: Qxb6003800aTotals.lean).
  GIVEN WITH THE SEED: the statements are not yours to turn. If you find one false, say at which input.
  Laid BY PROGRAM, IN A SANDBOX (cutbox-rows.mjs): the forced cells as the released guide's own fill.sh prints them over the translation 7d602cc4111a8836… (all of the seat's roots in one cut). By AI agents, Wed Nov 11 2026. No macro, syntax, notation, axiom, sorry.
-/
import Derived.Test.Qxb6003800aChecked
import GoSem.Claim
import GoSem.ClaimJoined
import GoSem.ClaimMapViews
import Derived.JoinedTies
import Derived.KernelRfl
namespace Go.Proofs.Qxb6003800a
/- THE CELL 'sum', in the pinned program and in every row, IS THE sha256 OF THE DUMP (.gsa) THAT Qxb6003800aProg.lean LOADS. Nothing in Lean hashes anything: it is a label: what it is worth is what the hold of that sum in a sandbox is worth. -/
noncomputable def Try.pinned : Pinned := { name := "qxb6003800a", sum := "7d602cc4111a8836620b8c2cc6322c879aacd7723910bd364702c98d1b00aeff", checked := Try.checked }
namespace Rows
def none {H : Type} : Left H := { results := [], args := [] }

/-- 'zzlaws_internal_sfv_g2.FnSkipSPStopsAtFirstNonSpace': WHATEVER THE INPUT: true; the input reads as it did. -/
def fnSkipSPStopsAtFirstNonSpaceSpec : ChangeSpec := { name := "fnSkipSPStopsAtFirstNonSpace", fn := fun _ => fun
  | [d1, d2] => { results := [.lit (.bool true)], args := [d1, d2] }
  | _ => none }
def fnSkipSPStopsAtFirstNonSpaceRow : OpenClaim := { program := "qxb6003800a", sum := "7d602cc4111a8836620b8c2cc6322c879aacd7723910bd364702c98d1b00aeff", func := "example.com/countersign/countersign/zzlaws_internal_sfv_g2.FnSkipSPStopsAtFirstNonSpace", spec := "fnSkipSPStopsAtFirstNonSpace", apart := false }
def FnSkipSPStopsAtFirstNonSpaceSaid : Prop := fnSkipSPStopsAtFirstNonSpaceRow.holds Try.pinned (OpenSpec.ofChange fnSkipSPStopsAtFirstNonSpaceSpec)

/-- ITS FALSE NEIGHBOUR: 'it returns false'. Refute it at one input. -/
def fnSkipSPStopsAtFirstNonSpaceWrong : ChangeSpec := { name := "fnSkipSPStopsAtFirstNonSpace", fn := fun _ => fun
  | [d1, d2] => { results := [.lit (.bool false)], args := [d1, d2] }
  | _ => none }
def FnSkipSPStopsAtFirstNonSpaceWrongFalsely : Prop := fnSkipSPStopsAtFirstNonSpaceRow.holds Try.pinned (OpenSpec.ofChange fnSkipSPStopsAtFirstNonSpaceWrong)

/-- 'zzlaws_internal_sfv_g2.FnSkipOWSCoversSkipSP': WHATEVER THE INPUT: true; the input reads as it did. -/
def fnSkipOWSCoversSkipSPSpec : ChangeSpec := { name := "fnSkipOWSCoversSkipSP", fn := fun _ => fun
  | [d1, d2] => { results := [.lit (.bool true)], args := [d1, d2] }
  | _ => none }
def fnSkipOWSCoversSkipSPRow : OpenClaim := { program := "qxb6003800a", sum := "7d602cc4111a8836620b8c2cc6322c879aacd7723910bd364702c98d1b00aeff", func := "example.com/countersign/countersign/zzlaws_internal_sfv_g2.FnSkipOWSCoversSkipSP", spec := "fnSkipOWSCoversSkipSP", apart := false }
def FnSkipOWSCoversSkipSPSaid : Prop := fnSkipOWSCoversSkipSPRow.holds Try.pinned (OpenSpec.ofChange fnSkipOWSCoversSkipSPSpec)

/-- ITS FALSE NEIGHBOUR: 'it returns false'. Refute it at one input. -/
def fnSkipOWSCoversSkipSPWrong : ChangeSpec := { name := "fnSkipOWSCoversSkipSP", fn := fun _ => fun
  | [d1, d2] => { results := [.lit (.bool false)], args := [d1, d2] }
  | _ => none }
def FnSkipOWSCoversSkipSPWrongFalsely : Prop := fnSkipOWSCoversSkipSPRow.holds Try.pinned (OpenSpec.ofChange fnSkipOWSCoversSkipSPWrong)

/-- 'zzlaws_internal_sfv_g2.FnSkipDigitsMaximalRun': WHATEVER THE INPUT: true; the input reads as it did. -/
def fnSkipDigitsMaximalRunSpec : ChangeSpec := { name := "fnSkipDigitsMaximalRun", fn := fun _ => fun
  | [d1, d2] => { results := [.lit (.bool true)], args := [d1, d2] }
  | _ => none }
def fnSkipDigitsMaximalRunRow : OpenClaim := { program := "qxb6003800a", sum := "7d602cc4111a8836620b8c2cc6322c879aacd7723910bd364702c98d1b00aeff", func := "example.com/countersign/countersign/zzlaws_internal_sfv_g2.FnSkipDigitsMaximalRun", spec := "fnSkipDigitsMaximalRun", apart := false }
def FnSkipDigitsMaximalRunSaid : Prop := fnSkipDigitsMaximalRunRow.holds Try.pinned (OpenSpec.ofChange fnSkipDigitsMaximalRunSpec)

/-- ITS FALSE NEIGHBOUR: 'it returns false'. Refute it at one input. -/
def fnSkipDigitsMaximalRunWrong : ChangeSpec := { name := "fnSkipDigitsMaximalRun", fn := fun _ => fun
  | [d1, d2] => { results := [.lit (.bool false)], args := [d1, d2] }
  | _ => none }
def FnSkipDigitsMaximalRunWrongFalsely : Prop := fnSkipDigitsMaximalRunRow.holds Try.pinned (OpenSpec.ofChange fnSkipDigitsMaximalRunWrong)

/-- 'zzlaws_internal_sfv_g2.FnTrimmedKeepsValueDropsZeros': WHATEVER THE INPUT: true; the input reads as it did. -/
def fnTrimmedKeepsValueDropsZerosSpec : ChangeSpec := { name := "fnTrimmedKeepsValueDropsZeros", fn := fun _ => fun
  | [d1, d2] => { results := [.lit (.bool true)], args := [d1, d2] }
  | _ => none }
def fnTrimmedKeepsValueDropsZerosRow : OpenClaim := { program := "qxb6003800a", sum := "7d602cc4111a8836620b8c2cc6322c879aacd7723910bd364702c98d1b00aeff", func := "example.com/countersign/countersign/zzlaws_internal_sfv_g2.FnTrimmedKeepsValueDropsZeros", spec := "fnTrimmedKeepsValueDropsZeros", apart := false }
def FnTrimmedKeepsValueDropsZerosSaid : Prop := fnTrimmedKeepsValueDropsZerosRow.holds Try.pinned (OpenSpec.ofChange fnTrimmedKeepsValueDropsZerosSpec)

/-- ITS FALSE NEIGHBOUR: 'it returns false'. Refute it at one input. -/
def fnTrimmedKeepsValueDropsZerosWrong : ChangeSpec := { name := "fnTrimmedKeepsValueDropsZeros", fn := fun _ => fun
  | [d1, d2] => { results := [.lit (.bool false)], args := [d1, d2] }
  | _ => none }
def FnTrimmedKeepsValueDropsZerosWrongFalsely : Prop := fnTrimmedKeepsValueDropsZerosRow.holds Try.pinned (OpenSpec.ofChange fnTrimmedKeepsValueDropsZerosWrong)

end Rows
end Go.Proofs.Qxb6003800a
