/-
  No cell of these rows narrows 'for every input' (looked for: loops, veiled, ifaces, maps, wideKeys, modest, calm, conditions, laid).
  DERIVED. THE GIVEN ROWS OF THIS SEAT. 4 by the template 'for every input the law returns true; each argument reads behind the call as it read before'; 0 by the template 'total and deterministic' (their statements: Qxb6600980aModsTotals.lean).
  GIVEN WITH THE SEED: the statements are not yours to turn. If you find one false, say at which input.
  Laid BY PROGRAM, IN A SANDBOX (cutbox-rows.mjs): the forced cells as the released guide's own fill.sh prints them over the translation 329f091f03f5252c… (all of the seat's roots in one cut). By AI agents, Wed Nov 11 2026. No macro, syntax, notation, axiom, sorry.
-/
import Derived.Test.Qxb6600980aModsChecked
import GoSem.Claim
import GoSem.ClaimJoined
import GoSem.ClaimMapViews
import Derived.JoinedTies
import Derived.KernelRfl
namespace Go.Proofs.Qxb6600980aMods
/- THE CELL 'sum', in the pinned program and in every row, IS THE sha256 OF THE DUMP (.gsa) THAT Qxb6600980aModsProg.lean LOADS. Nothing in Lean hashes anything: it is a label: what it is worth is what the hold of that sum in a sandbox is worth. -/
noncomputable def Trym.pinned : Pinned := { name := "qxb6600980amods", sum := "329f091f03f5252c2707a998984c9f77fd6495a7b2e97f62a820513a55d13166", checked := Trym.checked }
namespace Rows
def none {H : Type} : Left H := { results := [], args := [] }

/-- 'zzlaws_pkg_controller_b1.FnMarkExactAgainstAssocList': WHATEVER THE INPUT: true; the input reads as it did. -/
def fnMarkExactAgainstAssocListSpec : ChangeSpec := { name := "fnMarkExactAgainstAssocList", fn := fun _ => fun
  | [d1, d2, d3, d4] => { results := [.lit (.bool true)], args := [d1, d2, d3, d4] }
  | _ => none }
def fnMarkExactAgainstAssocListRow : OpenClaim := { program := "qxb6600980amods", sum := "329f091f03f5252c2707a998984c9f77fd6495a7b2e97f62a820513a55d13166", func := "example.com/fenceline/fenceline/zzlaws_pkg_controller_b1.FnMarkExactAgainstAssocList", spec := "fnMarkExactAgainstAssocList", make := .lifted ["publicsums"], apart := false }
def FnMarkExactAgainstAssocListSaid : Prop := fnMarkExactAgainstAssocListRow.holds Trym.pinned (OpenSpec.ofChange fnMarkExactAgainstAssocListSpec)

/-- ITS FALSE NEIGHBOUR: 'it returns false'. Refute it at one input. -/
def fnMarkExactAgainstAssocListWrong : ChangeSpec := { name := "fnMarkExactAgainstAssocList", fn := fun _ => fun
  | [d1, d2, d3, d4] => { results := [.lit (.bool false)], args := [d1, d2, d3, d4] }
  | _ => none }
def FnMarkExactAgainstAssocListWrongFalsely : Prop := fnMarkExactAgainstAssocListRow.holds Trym.pinned (OpenSpec.ofChange fnMarkExactAgainstAssocListWrong)

/-- 'zzlaws_pkg_controller_b1.FnMarkScriptMatchesMemberList': WHATEVER THE INPUT: true; the input reads as it did. -/
def fnMarkScriptMatchesMemberListSpec : ChangeSpec := { name := "fnMarkScriptMatchesMemberList", fn := fun _ => fun
  | [d1, d2] => { results := [.lit (.bool true)], args := [d1, d2] }
  | _ => none }
def fnMarkScriptMatchesMemberListRow : OpenClaim := { program := "qxb6600980amods", sum := "329f091f03f5252c2707a998984c9f77fd6495a7b2e97f62a820513a55d13166", func := "example.com/fenceline/fenceline/zzlaws_pkg_controller_b1.FnMarkScriptMatchesMemberList", spec := "fnMarkScriptMatchesMemberList", make := .lifted ["publicsums"], apart := false }
def FnMarkScriptMatchesMemberListSaid : Prop := fnMarkScriptMatchesMemberListRow.holds Trym.pinned (OpenSpec.ofChange fnMarkScriptMatchesMemberListSpec)

/-- ITS FALSE NEIGHBOUR: 'it returns false'. Refute it at one input. -/
def fnMarkScriptMatchesMemberListWrong : ChangeSpec := { name := "fnMarkScriptMatchesMemberList", fn := fun _ => fun
  | [d1, d2] => { results := [.lit (.bool false)], args := [d1, d2] }
  | _ => none }
def FnMarkScriptMatchesMemberListWrongFalsely : Prop := fnMarkScriptMatchesMemberListRow.holds Trym.pinned (OpenSpec.ofChange fnMarkScriptMatchesMemberListWrong)

/-- 'zzlaws_pkg_controller_b1.FnMarkUndoAndRepeat': WHATEVER THE INPUT: true; the input reads as it did. -/
def fnMarkUndoAndRepeatSpec : ChangeSpec := { name := "fnMarkUndoAndRepeat", fn := fun _ => fun
  | [d1, d2, d3] => { results := [.lit (.bool true)], args := [d1, d2, d3] }
  | _ => none }
def fnMarkUndoAndRepeatRow : OpenClaim := { program := "qxb6600980amods", sum := "329f091f03f5252c2707a998984c9f77fd6495a7b2e97f62a820513a55d13166", func := "example.com/fenceline/fenceline/zzlaws_pkg_controller_b1.FnMarkUndoAndRepeat", spec := "fnMarkUndoAndRepeat", make := .lifted ["publicsums"], apart := false }
def FnMarkUndoAndRepeatSaid : Prop := fnMarkUndoAndRepeatRow.holds Trym.pinned (OpenSpec.ofChange fnMarkUndoAndRepeatSpec)

/-- ITS FALSE NEIGHBOUR: 'it returns false'. Refute it at one input. -/
def fnMarkUndoAndRepeatWrong : ChangeSpec := { name := "fnMarkUndoAndRepeat", fn := fun _ => fun
  | [d1, d2, d3] => { results := [.lit (.bool false)], args := [d1, d2, d3] }
  | _ => none }
def FnMarkUndoAndRepeatWrongFalsely : Prop := fnMarkUndoAndRepeatRow.holds Trym.pinned (OpenSpec.ofChange fnMarkUndoAndRepeatWrong)

/-- 'zzlaws_pkg_controller_b1.FnPowerOnAfterRangeAndIrrelevance': WHATEVER THE INPUT: true; the input reads as it did. -/
def fnPowerOnAfterRangeAndIrrelevanceSpec : ChangeSpec := { name := "fnPowerOnAfterRangeAndIrrelevance", fn := fun _ => fun
  | [d1, d2, d3, d4, d5, d6, d7, d8, d9] => { results := [.lit (.bool true)], args := [d1, d2, d3, d4, d5, d6, d7, d8, d9] }
  | _ => none }
def fnPowerOnAfterRangeAndIrrelevanceRow : OpenClaim := { program := "qxb6600980amods", sum := "329f091f03f5252c2707a998984c9f77fd6495a7b2e97f62a820513a55d13166", func := "example.com/fenceline/fenceline/zzlaws_pkg_controller_b1.FnPowerOnAfterRangeAndIrrelevance", spec := "fnPowerOnAfterRangeAndIrrelevance", make := .lifted ["publicsums"], apart := false }
def FnPowerOnAfterRangeAndIrrelevanceSaid : Prop := fnPowerOnAfterRangeAndIrrelevanceRow.holds Trym.pinned (OpenSpec.ofChange fnPowerOnAfterRangeAndIrrelevanceSpec)

/-- ITS FALSE NEIGHBOUR: 'it returns false'. Refute it at one input. -/
def fnPowerOnAfterRangeAndIrrelevanceWrong : ChangeSpec := { name := "fnPowerOnAfterRangeAndIrrelevance", fn := fun _ => fun
  | [d1, d2, d3, d4, d5, d6, d7, d8, d9] => { results := [.lit (.bool false)], args := [d1, d2, d3, d4, d5, d6, d7, d8, d9] }
  | _ => none }
def FnPowerOnAfterRangeAndIrrelevanceWrongFalsely : Prop := fnPowerOnAfterRangeAndIrrelevanceRow.holds Trym.pinned (OpenSpec.ofChange fnPowerOnAfterRangeAndIrrelevanceWrong)

end Rows
end Go.Proofs.Qxb6600980aMods
