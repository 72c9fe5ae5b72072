/-
  No cell of these rows narrows 'for every input' (looked for: loops, veiled, ifaces, maps, wideKeys, modest, calm, conditions, laid).
  DERIVED. THE GIVEN ROWS OF THIS SEAT. 6 by the template 'for every input the law returns true; each argument reads behind the call as it read before'; 0 by the template 'total and deterministic' (their statements: Qxb6601679aModsTotals.lean).
  GIVEN WITH THE SEED: the statements are not yours to turn. If you find one false, say at which input.
  Laid BY PROGRAM, IN A SANDBOX (cutbox-rows.mjs): the forced cells as the released guide's own fill.sh prints them over the translation 21a37e18a4f36f2c… (all of the seat's roots in one cut). By AI agents, Wed Nov 11 2026. No macro, syntax, notation, axiom, sorry.
-/
import Derived.Test.Qxb6601679aModsChecked
import GoSem.Claim
import GoSem.ClaimJoined
import GoSem.ClaimMapViews
import Derived.JoinedTies
import Derived.KernelRfl
namespace Go.Proofs.Qxb6601679aMods
/- THE CELL 'sum', in the pinned program and in every row, IS THE sha256 OF THE DUMP (.gsa) THAT Qxb6601679aModsProg.lean LOADS. Nothing in Lean hashes anything: it is a label: what it is worth is what the hold of that sum in a sandbox is worth. -/
noncomputable def Trym.pinned : Pinned := { name := "qxb6601679amods", sum := "21a37e18a4f36f2c6093e4407a4fe846fe0e5c1e19bd1eee524d7aed7fc693c1", checked := Trym.checked }
namespace Rows
def none {H : Type} : Left H := { results := [], args := [] }

/-- 'zzlaws_internal_history_b1.FnNewGraphIsStableGroupingBySource': WHATEVER THE INPUT: true; the input reads as it did. -/
def fnNewGraphIsStableGroupingBySourceSpec : ChangeSpec := { name := "fnNewGraphIsStableGroupingBySource", fn := fun _ => fun
  | [d1, d2] => { results := [.lit (.bool true)], args := [d1, d2] }
  | _ => none }
def fnNewGraphIsStableGroupingBySourceRow : OpenClaim := { program := "qxb6601679amods", sum := "21a37e18a4f36f2c6093e4407a4fe846fe0e5c1e19bd1eee524d7aed7fc693c1", func := "example.com/multistrata/multistrata/zzlaws_internal_history_b1.FnNewGraphIsStableGroupingBySource", spec := "fnNewGraphIsStableGroupingBySource", make := .lifted ["publicsums"], apart := false }
def FnNewGraphIsStableGroupingBySourceSaid : Prop := fnNewGraphIsStableGroupingBySourceRow.holds Trym.pinned (OpenSpec.ofChange fnNewGraphIsStableGroupingBySourceSpec)

/-- ITS FALSE NEIGHBOUR: 'it returns false'. Refute it at one input. -/
def fnNewGraphIsStableGroupingBySourceWrong : ChangeSpec := { name := "fnNewGraphIsStableGroupingBySource", fn := fun _ => fun
  | [d1, d2] => { results := [.lit (.bool false)], args := [d1, d2] }
  | _ => none }
def FnNewGraphIsStableGroupingBySourceWrongFalsely : Prop := fnNewGraphIsStableGroupingBySourceRow.holds Trym.pinned (OpenSpec.ofChange fnNewGraphIsStableGroupingBySourceWrong)

/-- 'zzlaws_internal_history_b1.FnNewGraphOfConcatenationConcatenatesOutLists': WHATEVER THE INPUT: true; the input reads as it did. -/
def fnNewGraphOfConcatenationConcatenatesOutListsSpec : ChangeSpec := { name := "fnNewGraphOfConcatenationConcatenatesOutLists", fn := fun _ => fun
  | [d1, d2, d3] => { results := [.lit (.bool true)], args := [d1, d2, d3] }
  | _ => none }
def fnNewGraphOfConcatenationConcatenatesOutListsRow : OpenClaim := { program := "qxb6601679amods", sum := "21a37e18a4f36f2c6093e4407a4fe846fe0e5c1e19bd1eee524d7aed7fc693c1", func := "example.com/multistrata/multistrata/zzlaws_internal_history_b1.FnNewGraphOfConcatenationConcatenatesOutLists", spec := "fnNewGraphOfConcatenationConcatenatesOutLists", make := .lifted ["publicsums"], apart := false }
def FnNewGraphOfConcatenationConcatenatesOutListsSaid : Prop := fnNewGraphOfConcatenationConcatenatesOutListsRow.holds Trym.pinned (OpenSpec.ofChange fnNewGraphOfConcatenationConcatenatesOutListsSpec)

/-- ITS FALSE NEIGHBOUR: 'it returns false'. Refute it at one input. -/
def fnNewGraphOfConcatenationConcatenatesOutListsWrong : ChangeSpec := { name := "fnNewGraphOfConcatenationConcatenatesOutLists", fn := fun _ => fun
  | [d1, d2, d3] => { results := [.lit (.bool false)], args := [d1, d2, d3] }
  | _ => none }
def FnNewGraphOfConcatenationConcatenatesOutListsWrongFalsely : Prop := fnNewGraphOfConcatenationConcatenatesOutListsRow.holds Trym.pinned (OpenSpec.ofChange fnNewGraphOfConcatenationConcatenatesOutListsWrong)

/-- 'zzlaws_internal_history_b1.FnComponentsAreMutualReachabilityClasses': WHATEVER THE INPUT: true; the input reads as it did. -/
def fnComponentsAreMutualReachabilityClassesSpec : ChangeSpec := { name := "fnComponentsAreMutualReachabilityClasses", fn := fun _ => fun
  | [d1, d2] => { results := [.lit (.bool true)], args := [d1, d2] }
  | _ => none }
def fnComponentsAreMutualReachabilityClassesRow : OpenClaim := { program := "qxb6601679amods", sum := "21a37e18a4f36f2c6093e4407a4fe846fe0e5c1e19bd1eee524d7aed7fc693c1", func := "example.com/multistrata/multistrata/zzlaws_internal_history_b1.FnComponentsAreMutualReachabilityClasses", spec := "fnComponentsAreMutualReachabilityClasses", unfollowed := true, recurses := true, make := .lifted ["publicsums"], apart := false }
def FnComponentsAreMutualReachabilityClassesSaid : Prop := fnComponentsAreMutualReachabilityClassesRow.holds Trym.pinned (OpenSpec.ofChange fnComponentsAreMutualReachabilityClassesSpec)

/-- ITS FALSE NEIGHBOUR: 'it returns false'. Refute it at one input. -/
def fnComponentsAreMutualReachabilityClassesWrong : ChangeSpec := { name := "fnComponentsAreMutualReachabilityClasses", fn := fun _ => fun
  | [d1, d2] => { results := [.lit (.bool false)], args := [d1, d2] }
  | _ => none }
def FnComponentsAreMutualReachabilityClassesWrongFalsely : Prop := fnComponentsAreMutualReachabilityClassesRow.holds Trym.pinned (OpenSpec.ofChange fnComponentsAreMutualReachabilityClassesWrong)

/-- 'zzlaws_internal_history_b1.FnComponentsSurviveReversingEveryEdge': WHATEVER THE INPUT: true; the input reads as it did. -/
def fnComponentsSurviveReversingEveryEdgeSpec : ChangeSpec := { name := "fnComponentsSurviveReversingEveryEdge", fn := fun _ => fun
  | [d1, d2] => { results := [.lit (.bool true)], args := [d1, d2] }
  | _ => none }
def fnComponentsSurviveReversingEveryEdgeRow : OpenClaim := { program := "qxb6601679amods", sum := "21a37e18a4f36f2c6093e4407a4fe846fe0e5c1e19bd1eee524d7aed7fc693c1", func := "example.com/multistrata/multistrata/zzlaws_internal_history_b1.FnComponentsSurviveReversingEveryEdge", spec := "fnComponentsSurviveReversingEveryEdge", unfollowed := true, recurses := true, make := .lifted ["publicsums"], apart := false }
def FnComponentsSurviveReversingEveryEdgeSaid : Prop := fnComponentsSurviveReversingEveryEdgeRow.holds Trym.pinned (OpenSpec.ofChange fnComponentsSurviveReversingEveryEdgeSpec)

/-- ITS FALSE NEIGHBOUR: 'it returns false'. Refute it at one input. -/
def fnComponentsSurviveReversingEveryEdgeWrong : ChangeSpec := { name := "fnComponentsSurviveReversingEveryEdge", fn := fun _ => fun
  | [d1, d2] => { results := [.lit (.bool false)], args := [d1, d2] }
  | _ => none }
def FnComponentsSurviveReversingEveryEdgeWrongFalsely : Prop := fnComponentsSurviveReversingEveryEdgeRow.holds Trym.pinned (OpenSpec.ofChange fnComponentsSurviveReversingEveryEdgeWrong)

/-- 'zzlaws_internal_history_b1.FnCyclesAreTheDocumentedCycles': WHATEVER THE INPUT: true; the input reads as it did. -/
def fnCyclesAreTheDocumentedCyclesSpec : ChangeSpec := { name := "fnCyclesAreTheDocumentedCycles", fn := fun _ => fun
  | [d1, d2, d3] => { results := [.lit (.bool true)], args := [d1, d2, d3] }
  | _ => none }
def fnCyclesAreTheDocumentedCyclesRow : OpenClaim := { program := "qxb6601679amods", sum := "21a37e18a4f36f2c6093e4407a4fe846fe0e5c1e19bd1eee524d7aed7fc693c1", func := "example.com/multistrata/multistrata/zzlaws_internal_history_b1.FnCyclesAreTheDocumentedCycles", spec := "fnCyclesAreTheDocumentedCycles", unfollowed := true, recurses := true, make := .lifted ["publicsums"], apart := false }
def FnCyclesAreTheDocumentedCyclesSaid : Prop := fnCyclesAreTheDocumentedCyclesRow.holds Trym.pinned (OpenSpec.ofChange fnCyclesAreTheDocumentedCyclesSpec)

/-- ITS FALSE NEIGHBOUR: 'it returns false'. Refute it at one input. -/
def fnCyclesAreTheDocumentedCyclesWrong : ChangeSpec := { name := "fnCyclesAreTheDocumentedCycles", fn := fun _ => fun
  | [d1, d2, d3] => { results := [.lit (.bool false)], args := [d1, d2, d3] }
  | _ => none }
def FnCyclesAreTheDocumentedCyclesWrongFalsely : Prop := fnCyclesAreTheDocumentedCyclesRow.holds Trym.pinned (OpenSpec.ofChange fnCyclesAreTheDocumentedCyclesWrong)

/-- 'zzlaws_internal_history_b1.FnCyclesAllUpdatesIsNoFilterAndNoUpdatesIsNoCycle': WHATEVER THE INPUT: true; the input reads as it did. -/
def fnCyclesAllUpdatesIsNoFilterAndNoUpdatesIsNoCycleSpec : ChangeSpec := { name := "fnCyclesAllUpdatesIsNoFilterAndNoUpdatesIsNoCycle", fn := fun _ => fun
  | [d1, d2] => { results := [.lit (.bool true)], args := [d1, d2] }
  | _ => none }
def fnCyclesAllUpdatesIsNoFilterAndNoUpdatesIsNoCycleRow : OpenClaim := { program := "qxb6601679amods", sum := "21a37e18a4f36f2c6093e4407a4fe846fe0e5c1e19bd1eee524d7aed7fc693c1", func := "example.com/multistrata/multistrata/zzlaws_internal_history_b1.FnCyclesAllUpdatesIsNoFilterAndNoUpdatesIsNoCycle", spec := "fnCyclesAllUpdatesIsNoFilterAndNoUpdatesIsNoCycle", unfollowed := true, recurses := true, make := .lifted ["publicsums"], apart := false }
def FnCyclesAllUpdatesIsNoFilterAndNoUpdatesIsNoCycleSaid : Prop := fnCyclesAllUpdatesIsNoFilterAndNoUpdatesIsNoCycleRow.holds Trym.pinned (OpenSpec.ofChange fnCyclesAllUpdatesIsNoFilterAndNoUpdatesIsNoCycleSpec)

/-- ITS FALSE NEIGHBOUR: 'it returns false'. Refute it at one input. -/
def fnCyclesAllUpdatesIsNoFilterAndNoUpdatesIsNoCycleWrong : ChangeSpec := { name := "fnCyclesAllUpdatesIsNoFilterAndNoUpdatesIsNoCycle", fn := fun _ => fun
  | [d1, d2] => { results := [.lit (.bool false)], args := [d1, d2] }
  | _ => none }
def FnCyclesAllUpdatesIsNoFilterAndNoUpdatesIsNoCycleWrongFalsely : Prop := fnCyclesAllUpdatesIsNoFilterAndNoUpdatesIsNoCycleRow.holds Trym.pinned (OpenSpec.ofChange fnCyclesAllUpdatesIsNoFilterAndNoUpdatesIsNoCycleWrong)

end Rows
end Go.Proofs.Qxb6601679aMods
