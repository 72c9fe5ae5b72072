/-
  No cell of these rows narrows 'for every input' (looked for: loops, veiled, ifaces, maps, wideKeys, modest, calm, conditions, laid).
  DERIVED. THE GIVEN ROWS OF THIS SEAT. 3 by the template 'for every input the law returns true; each argument reads behind the call as it read before'; 0 by the template 'total and deterministic' (their statements: Qxb6600973aModsTotals.lean).
  GIVEN WITH THE SEED: the statements are not yours to turn. If you find one false, say at which input.
  Laid BY PROGRAM, IN A SANDBOX (cutbox-rows.mjs): the forced cells as the released guide's own fill.sh prints them over the translation 9509462dca583a43… (all of the seat's roots in one cut). By AI agents, Wed Nov 11 2026. No macro, syntax, notation, axiom, sorry.
-/
import Derived.Test.Qxb6600973aModsChecked
import GoSem.Claim
import GoSem.ClaimJoined
import GoSem.ClaimMapViews
import Derived.JoinedTies
import Derived.KernelRfl
namespace Go.Proofs.Qxb6600973aMods
/- THE CELL 'sum', in the pinned program and in every row, IS THE sha256 OF THE DUMP (.gsa) THAT Qxb6600973aModsProg.lean LOADS. Nothing in Lean hashes anything: it is a label: what it is worth is what the hold of that sum in a sandbox is worth. -/
noncomputable def Trym.pinned : Pinned := { name := "qxb6600973amods", sum := "9509462dca583a437b50612bded4bf2426e5c391efa858356d3d4a289ebb86ac", checked := Trym.checked }
namespace Rows
def none {H : Type} : Left H := { results := [], args := [] }

/-- 'zzlaws_pkg_mesh_b1.FnRefusedErrorReadsBack': WHATEVER THE INPUT: true; the input reads as it did. -/
def fnRefusedErrorReadsBackSpec : ChangeSpec := { name := "fnRefusedErrorReadsBack", fn := fun _ => fun
  | [d1, d2, d3] => { results := [.lit (.bool true)], args := [d1, d2, d3] }
  | _ => none }
def fnRefusedErrorReadsBackRow : OpenClaim := { program := "qxb6600973amods", sum := "9509462dca583a437b50612bded4bf2426e5c391efa858356d3d4a289ebb86ac", func := "example.com/relayloft/relayloft/zzlaws_pkg_mesh_b1.FnRefusedErrorReadsBack", spec := "fnRefusedErrorReadsBack", make := .lifted ["publicsums"], apart := false }
def FnRefusedErrorReadsBackSaid : Prop := fnRefusedErrorReadsBackRow.holds Trym.pinned (OpenSpec.ofChange fnRefusedErrorReadsBackSpec)

/-- ITS FALSE NEIGHBOUR: 'it returns false'. Refute it at one input. -/
def fnRefusedErrorReadsBackWrong : ChangeSpec := { name := "fnRefusedErrorReadsBack", fn := fun _ => fun
  | [d1, d2, d3] => { results := [.lit (.bool false)], args := [d1, d2, d3] }
  | _ => none }
def FnRefusedErrorReadsBackWrongFalsely : Prop := fnRefusedErrorReadsBackRow.holds Trym.pinned (OpenSpec.ofChange fnRefusedErrorReadsBackWrong)

/-- 'zzlaws_pkg_mesh_b1.FnBacklogAddScriptModel': WHATEVER THE INPUT: true; the input reads as it did. -/
def fnBacklogAddScriptModelSpec : ChangeSpec := { name := "fnBacklogAddScriptModel", fn := fun _ => fun
  | [d] => { results := [.lit (.bool true)], args := [d] }
  | _ => none }
def fnBacklogAddScriptModelRow : OpenClaim := { program := "qxb6600973amods", sum := "9509462dca583a437b50612bded4bf2426e5c391efa858356d3d4a289ebb86ac", func := "example.com/relayloft/relayloft/zzlaws_pkg_mesh_b1.FnBacklogAddScriptModel", spec := "fnBacklogAddScriptModel", make := .lifted ["publicsums"], apart := false }
def FnBacklogAddScriptModelSaid : Prop := fnBacklogAddScriptModelRow.holds Trym.pinned (OpenSpec.ofChange fnBacklogAddScriptModelSpec)

/-- ITS FALSE NEIGHBOUR: 'it returns false'. Refute it at one input. -/
def fnBacklogAddScriptModelWrong : ChangeSpec := { name := "fnBacklogAddScriptModel", fn := fun _ => fun
  | [d] => { results := [.lit (.bool false)], args := [d] }
  | _ => none }
def FnBacklogAddScriptModelWrongFalsely : Prop := fnBacklogAddScriptModelRow.holds Trym.pinned (OpenSpec.ofChange fnBacklogAddScriptModelWrong)

/-- 'zzlaws_pkg_mesh_b1.FnBacklogAddStep': WHATEVER THE INPUT: true; the input reads as it did. -/
def fnBacklogAddStepSpec : ChangeSpec := { name := "fnBacklogAddStep", fn := fun _ => fun
  | [d1, d2, d3, d4] => { results := [.lit (.bool true)], args := [d1, d2, d3, d4] }
  | _ => none }
def fnBacklogAddStepRow : OpenClaim := { program := "qxb6600973amods", sum := "9509462dca583a437b50612bded4bf2426e5c391efa858356d3d4a289ebb86ac", func := "example.com/relayloft/relayloft/zzlaws_pkg_mesh_b1.FnBacklogAddStep", spec := "fnBacklogAddStep", make := .lifted ["publicsums"], apart := false }
def FnBacklogAddStepSaid : Prop := fnBacklogAddStepRow.holds Trym.pinned (OpenSpec.ofChange fnBacklogAddStepSpec)

/-- ITS FALSE NEIGHBOUR: 'it returns false'. Refute it at one input. -/
def fnBacklogAddStepWrong : ChangeSpec := { name := "fnBacklogAddStep", fn := fun _ => fun
  | [d1, d2, d3, d4] => { results := [.lit (.bool false)], args := [d1, d2, d3, d4] }
  | _ => none }
def FnBacklogAddStepWrongFalsely : Prop := fnBacklogAddStepRow.holds Trym.pinned (OpenSpec.ofChange fnBacklogAddStepWrong)

end Rows
end Go.Proofs.Qxb6600973aMods
