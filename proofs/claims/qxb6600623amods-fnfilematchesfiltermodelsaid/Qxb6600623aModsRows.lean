/-
  No cell of these rows narrows 'for every input' (looked for: loops, veiled, ifaces, maps, wideKeys, modest, calm, conditions, laid).
  DERIVED. THE GIVEN ROWS OF THIS SEAT. 4 by the template 'for every input the law returns true; each argument reads behind the call as it read before'; 0 by the template 'total and deterministic' (their statements: Qxb6600623aModsTotals.lean).
  GIVEN WITH THE SEED: the statements are not yours to turn. If you find one false, say at which input.
  Laid BY PROGRAM, IN A SANDBOX (cutbox-rows.mjs): the forced cells as the released guide's own fill.sh prints them over the translation 645c3cd5d20bb1d0… (all of the seat's roots in one cut). By AI agents, Wed Nov 11 2026. No macro, syntax, notation, axiom, sorry.
-/
import Derived.Test.Qxb6600623aModsChecked
import GoSem.Claim
import GoSem.ClaimJoined
import GoSem.ClaimMapViews
import Derived.JoinedTies
import Derived.KernelRfl
namespace Go.Proofs.Qxb6600623aMods
/- THE CELL 'sum', in the pinned program and in every row, IS THE sha256 OF THE DUMP (.gsa) THAT Qxb6600623aModsProg.lean LOADS. Nothing in Lean hashes anything: it is a label: what it is worth is what the hold of that sum in a sandbox is worth. -/
noncomputable def Trym.pinned : Pinned := { name := "qxb6600623amods", sum := "645c3cd5d20bb1d0928a4106043c4a870a6b60c72674a94fb9782560ef658af7", checked := Trym.checked }
namespace Rows
def none {H : Type} : Left H := { results := [], args := [] }

/-- 'zzlaws_inject_b1.FnMarkExceptSetsDifference': WHATEVER THE INPUT: true; the input reads as it did. -/
def fnMarkExceptSetsDifferenceSpec : ChangeSpec := { name := "fnMarkExceptSetsDifference", fn := fun _ => fun
  | [d1, d2, d3, d4, d5] => { results := [.lit (.bool true)], args := [d1, d2, d3, d4, d5] }
  | _ => none }
def fnMarkExceptSetsDifferenceRow : OpenClaim := { program := "qxb6600623amods", sum := "645c3cd5d20bb1d0928a4106043c4a870a6b60c72674a94fb9782560ef658af7", func := "example.com/pillion/pillion/zzlaws_inject_b1.FnMarkExceptSetsDifference", spec := "fnMarkExceptSetsDifference", make := .lifted ["publicsums"], apart := false }
def FnMarkExceptSetsDifferenceSaid : Prop := fnMarkExceptSetsDifferenceRow.holds Trym.pinned (OpenSpec.ofChange fnMarkExceptSetsDifferenceSpec)

/-- ITS FALSE NEIGHBOUR: 'it returns false'. Refute it at one input. -/
def fnMarkExceptSetsDifferenceWrong : ChangeSpec := { name := "fnMarkExceptSetsDifference", fn := fun _ => fun
  | [d1, d2, d3, d4, d5] => { results := [.lit (.bool false)], args := [d1, d2, d3, d4, d5] }
  | _ => none }
def FnMarkExceptSetsDifferenceWrongFalsely : Prop := fnMarkExceptSetsDifferenceRow.holds Trym.pinned (OpenSpec.ofChange fnMarkExceptSetsDifferenceWrong)

/-- 'zzlaws_inject_b1.FnMarkExceptThenQIsUnion': WHATEVER THE INPUT: true; the input reads as it did. -/
def fnMarkExceptThenQIsUnionSpec : ChangeSpec := { name := "fnMarkExceptThenQIsUnion", fn := fun _ => fun
  | [d1, d2, d3, d4, d5] => { results := [.lit (.bool true)], args := [d1, d2, d3, d4, d5] }
  | _ => none }
def fnMarkExceptThenQIsUnionRow : OpenClaim := { program := "qxb6600623amods", sum := "645c3cd5d20bb1d0928a4106043c4a870a6b60c72674a94fb9782560ef658af7", func := "example.com/pillion/pillion/zzlaws_inject_b1.FnMarkExceptThenQIsUnion", spec := "fnMarkExceptThenQIsUnion", make := .lifted ["publicsums"], apart := false }
def FnMarkExceptThenQIsUnionSaid : Prop := fnMarkExceptThenQIsUnionRow.holds Trym.pinned (OpenSpec.ofChange fnMarkExceptThenQIsUnionSpec)

/-- ITS FALSE NEIGHBOUR: 'it returns false'. Refute it at one input. -/
def fnMarkExceptThenQIsUnionWrong : ChangeSpec := { name := "fnMarkExceptThenQIsUnion", fn := fun _ => fun
  | [d1, d2, d3, d4, d5] => { results := [.lit (.bool false)], args := [d1, d2, d3, d4, d5] }
  | _ => none }
def FnMarkExceptThenQIsUnionWrongFalsely : Prop := fnMarkExceptThenQIsUnionRow.holds Trym.pinned (OpenSpec.ofChange fnMarkExceptThenQIsUnionWrong)

/-- 'zzlaws_inject_b1.FnFileMatchesFilterModel': WHATEVER THE INPUT: true; the input reads as it did. -/
def fnFileMatchesFilterModelSpec : ChangeSpec := { name := "fnFileMatchesFilterModel", fn := fun _ => fun
  | [d1, d2, d3] => { results := [.lit (.bool true)], args := [d1, d2, d3] }
  | _ => none }
def fnFileMatchesFilterModelRow : OpenClaim := { program := "qxb6600623amods", sum := "645c3cd5d20bb1d0928a4106043c4a870a6b60c72674a94fb9782560ef658af7", func := "example.com/pillion/pillion/zzlaws_inject_b1.FnFileMatchesFilterModel", spec := "fnFileMatchesFilterModel", make := .lifted ["publicsums"], apart := false }
def FnFileMatchesFilterModelSaid : Prop := fnFileMatchesFilterModelRow.holds Trym.pinned (OpenSpec.ofChange fnFileMatchesFilterModelSpec)

/-- ITS FALSE NEIGHBOUR: 'it returns false'. Refute it at one input. -/
def fnFileMatchesFilterModelWrong : ChangeSpec := { name := "fnFileMatchesFilterModel", fn := fun _ => fun
  | [d1, d2, d3] => { results := [.lit (.bool false)], args := [d1, d2, d3] }
  | _ => none }
def FnFileMatchesFilterModelWrongFalsely : Prop := fnFileMatchesFilterModelRow.holds Trym.pinned (OpenSpec.ofChange fnFileMatchesFilterModelWrong)

/-- 'zzlaws_inject_b1.FnFileKeepsPlacesAscending': WHATEVER THE INPUT: true; the input reads as it did. -/
def fnFileKeepsPlacesAscendingSpec : ChangeSpec := { name := "fnFileKeepsPlacesAscending", fn := fun _ => fun
  | [d] => { results := [.lit (.bool true)], args := [d] }
  | _ => none }
def fnFileKeepsPlacesAscendingRow : OpenClaim := { program := "qxb6600623amods", sum := "645c3cd5d20bb1d0928a4106043c4a870a6b60c72674a94fb9782560ef658af7", func := "example.com/pillion/pillion/zzlaws_inject_b1.FnFileKeepsPlacesAscending", spec := "fnFileKeepsPlacesAscending", make := .lifted ["publicsums"], apart := false }
def FnFileKeepsPlacesAscendingSaid : Prop := fnFileKeepsPlacesAscendingRow.holds Trym.pinned (OpenSpec.ofChange fnFileKeepsPlacesAscendingSpec)

/-- ITS FALSE NEIGHBOUR: 'it returns false'. Refute it at one input. -/
def fnFileKeepsPlacesAscendingWrong : ChangeSpec := { name := "fnFileKeepsPlacesAscending", fn := fun _ => fun
  | [d] => { results := [.lit (.bool false)], args := [d] }
  | _ => none }
def FnFileKeepsPlacesAscendingWrongFalsely : Prop := fnFileKeepsPlacesAscendingRow.holds Trym.pinned (OpenSpec.ofChange fnFileKeepsPlacesAscendingWrong)

end Rows
end Go.Proofs.Qxb6600623aMods
