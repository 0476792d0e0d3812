/-
  No cell of these rows narrows 'for every input' (looked for: loops, veiled, ifaces, maps, wideKeys, modest, calm, conditions, laid).
  DERIVED. THE GIVEN ROWS OF THIS SEAT. 3 by the template 'for every input the law returns true; each argument reads behind the call as it read before'; 0 by the template 'total and deterministic' (their statements: Qxb6003818aTotals.lean).
  GIVEN WITH THE SEED: the statements are not yours to turn. If you find one false, say at which input.
  Laid BY PROGRAM, IN A SANDBOX (cutbox-rows.mjs): the forced cells as the released guide's own fill.sh prints them over the translation 27e4ca4bbda130b1… (all of the seat's roots in one cut). By AI agents, Wed Nov 11 2026. No macro, syntax, notation, axiom, sorry.
-/
import Derived.Test.Qxb6003818aChecked
import GoSem.Claim
import GoSem.ClaimJoined
import GoSem.ClaimMapViews
import Derived.JoinedTies
import Derived.KernelRfl
namespace Go.Proofs.Qxb6003818a
/- THE CELL 'sum', in the pinned program and in every row, IS THE sha256 OF THE DUMP (.gsa) THAT Qxb6003818aProg.lean LOADS. Nothing in Lean hashes anything: it is a label: what it is worth is what the hold of that sum in a sandbox is worth. -/
noncomputable def Try.pinned : Pinned := { name := "qxb6003818a", sum := "27e4ca4bbda130b1652684a0e976a7f1f7ff42055b5347381c42681ba73ec52f", checked := Try.checked }
namespace Rows
def none {H : Type} : Left H := { results := [], args := [] }

/-- 'zzlaws_root_c1.ThmInMemoryEngineRefinesModel': WHATEVER THE INPUT: true; the input reads as it did. -/
def thmInMemoryEngineRefinesModelSpec : ChangeSpec := { name := "thmInMemoryEngineRefinesModel", fn := fun _ => fun
  | [d1, d2, d3, d4, d5, d6, d7, d8] => { results := [.lit (.bool true)], args := [d1, d2, d3, d4, d5, d6, d7, d8] }
  | _ => none }
def thmInMemoryEngineRefinesModelRow : OpenClaim := { program := "qxb6003818a", sum := "27e4ca4bbda130b1652684a0e976a7f1f7ff42055b5347381c42681ba73ec52f", func := "example.com/sanguine/sanguine/zzlaws_root_c1.ThmInMemoryEngineRefinesModel", spec := "thmInMemoryEngineRefinesModel", inPlace := ["internal/bytealg.abigen_runtime_cmpstring"], unfollowed := true, recurses := true, apart := false }
def ThmInMemoryEngineRefinesModelSaid : Prop := thmInMemoryEngineRefinesModelRow.holds Try.pinned (OpenSpec.ofChange thmInMemoryEngineRefinesModelSpec)

/-- ITS FALSE NEIGHBOUR: 'it returns false'. Refute it at one input. -/
def thmInMemoryEngineRefinesModelWrong : ChangeSpec := { name := "thmInMemoryEngineRefinesModel", fn := fun _ => fun
  | [d1, d2, d3, d4, d5, d6, d7, d8] => { results := [.lit (.bool false)], args := [d1, d2, d3, d4, d5, d6, d7, d8] }
  | _ => none }
def ThmInMemoryEngineRefinesModelWrongFalsely : Prop := thmInMemoryEngineRefinesModelRow.holds Try.pinned (OpenSpec.ofChange thmInMemoryEngineRefinesModelWrong)

/-- 'zzlaws_root_c2a.PropBtreeAnswersAsFiniteMap': WHATEVER THE INPUT: true; the input reads as it did. -/
def propBtreeAnswersAsFiniteMapSpec : ChangeSpec := { name := "propBtreeAnswersAsFiniteMap", fn := fun _ => fun
  | [d1, d2, d3] => { results := [.lit (.bool true)], args := [d1, d2, d3] }
  | _ => none }
def propBtreeAnswersAsFiniteMapRow : OpenClaim := { program := "qxb6003818a", sum := "27e4ca4bbda130b1652684a0e976a7f1f7ff42055b5347381c42681ba73ec52f", func := "example.com/sanguine/sanguine/zzlaws_root_c2a.PropBtreeAnswersAsFiniteMap", spec := "propBtreeAnswersAsFiniteMap", inPlace := ["slices.overlaps[example.com/sanguine/sanguine.item[example.com/sanguine/sanguine.keyRange]]", "slices.overlaps[*example.com/sanguine/sanguine.btreeNode[example.com/sanguine/sanguine.keyRange]]", "internal/bytealg.abigen_runtime_cmpstring"], unfollowed := true, recurses := true, apart := false }
def PropBtreeAnswersAsFiniteMapSaid : Prop := propBtreeAnswersAsFiniteMapRow.holds Try.pinned (OpenSpec.ofChange propBtreeAnswersAsFiniteMapSpec)

/-- ITS FALSE NEIGHBOUR: 'it returns false'. Refute it at one input. -/
def propBtreeAnswersAsFiniteMapWrong : ChangeSpec := { name := "propBtreeAnswersAsFiniteMap", fn := fun _ => fun
  | [d1, d2, d3] => { results := [.lit (.bool false)], args := [d1, d2, d3] }
  | _ => none }
def PropBtreeAnswersAsFiniteMapWrongFalsely : Prop := propBtreeAnswersAsFiniteMapRow.holds Try.pinned (OpenSpec.ofChange propBtreeAnswersAsFiniteMapWrong)

/-- 'zzlaws_root_c2a.PropBtreeKeepsBayerMcCreightInvariants': WHATEVER THE INPUT: true; the input reads as it did. -/
def propBtreeKeepsBayerMcCreightInvariantsSpec : ChangeSpec := { name := "propBtreeKeepsBayerMcCreightInvariants", fn := fun _ => fun
  | [d1, d2, d3] => { results := [.lit (.bool true)], args := [d1, d2, d3] }
  | _ => none }
def propBtreeKeepsBayerMcCreightInvariantsRow : OpenClaim := { program := "qxb6003818a", sum := "27e4ca4bbda130b1652684a0e976a7f1f7ff42055b5347381c42681ba73ec52f", func := "example.com/sanguine/sanguine/zzlaws_root_c2a.PropBtreeKeepsBayerMcCreightInvariants", spec := "propBtreeKeepsBayerMcCreightInvariants", inPlace := ["slices.overlaps[example.com/sanguine/sanguine.item[example.com/sanguine/sanguine.keyRange]]", "slices.overlaps[*example.com/sanguine/sanguine.btreeNode[example.com/sanguine/sanguine.keyRange]]", "internal/bytealg.abigen_runtime_cmpstring"], unfollowed := true, recurses := true, apart := false }
def PropBtreeKeepsBayerMcCreightInvariantsSaid : Prop := propBtreeKeepsBayerMcCreightInvariantsRow.holds Try.pinned (OpenSpec.ofChange propBtreeKeepsBayerMcCreightInvariantsSpec)

/-- ITS FALSE NEIGHBOUR: 'it returns false'. Refute it at one input. -/
def propBtreeKeepsBayerMcCreightInvariantsWrong : ChangeSpec := { name := "propBtreeKeepsBayerMcCreightInvariants", fn := fun _ => fun
  | [d1, d2, d3] => { results := [.lit (.bool false)], args := [d1, d2, d3] }
  | _ => none }
def PropBtreeKeepsBayerMcCreightInvariantsWrongFalsely : Prop := propBtreeKeepsBayerMcCreightInvariantsRow.holds Try.pinned (OpenSpec.ofChange propBtreeKeepsBayerMcCreightInvariantsWrong)

end Rows
end Go.Proofs.Qxb6003818a
