/-
  No cell of these rows narrows 'for every input' (looked for: loops, veiled, ifaces, maps, wideKeys, modest, calm, conditions, laid).
  DERIVED. THE GIVEN ROWS OF THIS SEAT. 5 by the template 'for every input the law returns true; each argument reads behind the call as it read before'; 0 by the template 'total and deterministic' (their statements: Qxb6601413aModsTotals.lean).
  GIVEN WITH THE SEED: the statements are not yours to turn. If you find one false, say at which input.
  Laid BY PROGRAM, IN A SANDBOX (cutbox-rows.mjs): the forced cells as the released guide's own fill.sh prints them over the translation 60164b0a5ac61fad… (all of the seat's roots in one cut). By AI agents, Wed Nov 11 2026. No macro, syntax, notation, axiom, sorry.
-/
import Derived.Test.Qxb6601413aModsChecked
import GoSem.Claim
import GoSem.ClaimJoined
import GoSem.ClaimMapViews
import Derived.JoinedTies
import Derived.KernelRfl
namespace Go.Proofs.Qxb6601413aMods
/- THE CELL 'sum', in the pinned program and in every row, IS THE sha256 OF THE DUMP (.gsa) THAT Qxb6601413aModsProg.lean LOADS. Nothing in Lean hashes anything: it is a label: what it is worth is what the hold of that sum in a sandbox is worth. -/
noncomputable def Trym.pinned : Pinned := { name := "qxb6601413amods", sum := "60164b0a5ac61fadc40af79d82c544c157299994cab839caa5110799acde1903", checked := Trym.checked }
namespace Rows
def none {H : Type} : Left H := { results := [], args := [] }

/-- 'zzlaws_store_b1.FnValidNameConcatenation': WHATEVER THE INPUT: true; the input reads as it did. -/
def fnValidNameConcatenationSpec : ChangeSpec := { name := "fnValidNameConcatenation", fn := fun _ => fun
  | [d1, d2] => { results := [.lit (.bool true)], args := [d1, d2] }
  | _ => none }
def fnValidNameConcatenationRow : OpenClaim := { program := "qxb6601413amods", sum := "60164b0a5ac61fadc40af79d82c544c157299994cab839caa5110799acde1903", func := "example.com/chored/chored/zzlaws_store_b1.FnValidNameConcatenation", spec := "fnValidNameConcatenation", make := .lifted ["publicsums"], apart := false }
def FnValidNameConcatenationSaid : Prop := fnValidNameConcatenationRow.holds Trym.pinned (OpenSpec.ofChange fnValidNameConcatenationSpec)

/-- ITS FALSE NEIGHBOUR: 'it returns false'. Refute it at one input. -/
def fnValidNameConcatenationWrong : ChangeSpec := { name := "fnValidNameConcatenation", fn := fun _ => fun
  | [d1, d2] => { results := [.lit (.bool false)], args := [d1, d2] }
  | _ => none }
def FnValidNameConcatenationWrongFalsely : Prop := fnValidNameConcatenationRow.holds Trym.pinned (OpenSpec.ofChange fnValidNameConcatenationWrong)

/-- 'zzlaws_store_b1.FnNextStageMatchesFirstOccurrence': WHATEVER THE INPUT: true; the input reads as it did. -/
def fnNextStageMatchesFirstOccurrenceSpec : ChangeSpec := { name := "fnNextStageMatchesFirstOccurrence", fn := fun _ => fun
  | [d1, d2] => { results := [.lit (.bool true)], args := [d1, d2] }
  | _ => none }
def fnNextStageMatchesFirstOccurrenceRow : OpenClaim := { program := "qxb6601413amods", sum := "60164b0a5ac61fadc40af79d82c544c157299994cab839caa5110799acde1903", func := "example.com/chored/chored/zzlaws_store_b1.FnNextStageMatchesFirstOccurrence", spec := "fnNextStageMatchesFirstOccurrence", make := .lifted ["publicsums"], apart := false }
def FnNextStageMatchesFirstOccurrenceSaid : Prop := fnNextStageMatchesFirstOccurrenceRow.holds Trym.pinned (OpenSpec.ofChange fnNextStageMatchesFirstOccurrenceSpec)

/-- ITS FALSE NEIGHBOUR: 'it returns false'. Refute it at one input. -/
def fnNextStageMatchesFirstOccurrenceWrong : ChangeSpec := { name := "fnNextStageMatchesFirstOccurrence", fn := fun _ => fun
  | [d1, d2] => { results := [.lit (.bool false)], args := [d1, d2] }
  | _ => none }
def FnNextStageMatchesFirstOccurrenceWrongFalsely : Prop := fnNextStageMatchesFirstOccurrenceRow.holds Trym.pinned (OpenSpec.ofChange fnNextStageMatchesFirstOccurrenceWrong)

/-- 'zzlaws_store_b1.FnNextStageWalksDistinctStages': WHATEVER THE INPUT: true; the input reads as it did. -/
def fnNextStageWalksDistinctStagesSpec : ChangeSpec := { name := "fnNextStageWalksDistinctStages", fn := fun _ => fun
  | [d] => { results := [.lit (.bool true)], args := [d] }
  | _ => none }
def fnNextStageWalksDistinctStagesRow : OpenClaim := { program := "qxb6601413amods", sum := "60164b0a5ac61fadc40af79d82c544c157299994cab839caa5110799acde1903", func := "example.com/chored/chored/zzlaws_store_b1.FnNextStageWalksDistinctStages", spec := "fnNextStageWalksDistinctStages", make := .lifted ["publicsums"], apart := false }
def FnNextStageWalksDistinctStagesSaid : Prop := fnNextStageWalksDistinctStagesRow.holds Trym.pinned (OpenSpec.ofChange fnNextStageWalksDistinctStagesSpec)

/-- ITS FALSE NEIGHBOUR: 'it returns false'. Refute it at one input. -/
def fnNextStageWalksDistinctStagesWrong : ChangeSpec := { name := "fnNextStageWalksDistinctStages", fn := fun _ => fun
  | [d] => { results := [.lit (.bool false)], args := [d] }
  | _ => none }
def FnNextStageWalksDistinctStagesWrongFalsely : Prop := fnNextStageWalksDistinctStagesRow.holds Trym.pinned (OpenSpec.ofChange fnNextStageWalksDistinctStagesWrong)

/-- 'zzlaws_store_b1.FnSucceededTasksExact': WHATEVER THE INPUT: true; the input reads as it did. -/
def fnSucceededTasksExactSpec : ChangeSpec := { name := "fnSucceededTasksExact", fn := fun _ => fun
  | [d1, d2, d3, d4, d5, d6, d7, d8, d9] => { results := [.lit (.bool true)], args := [d1, d2, d3, d4, d5, d6, d7, d8, d9] }
  | _ => none }
def fnSucceededTasksExactRow : OpenClaim := { program := "qxb6601413amods", sum := "60164b0a5ac61fadc40af79d82c544c157299994cab839caa5110799acde1903", func := "example.com/chored/chored/zzlaws_store_b1.FnSucceededTasksExact", spec := "fnSucceededTasksExact", make := .lifted ["publicsums"], apart := false }
def FnSucceededTasksExactSaid : Prop := fnSucceededTasksExactRow.holds Trym.pinned (OpenSpec.ofChange fnSucceededTasksExactSpec)

/-- ITS FALSE NEIGHBOUR: 'it returns false'. Refute it at one input. -/
def fnSucceededTasksExactWrong : ChangeSpec := { name := "fnSucceededTasksExact", fn := fun _ => fun
  | [d1, d2, d3, d4, d5, d6, d7, d8, d9] => { results := [.lit (.bool false)], args := [d1, d2, d3, d4, d5, d6, d7, d8, d9] }
  | _ => none }
def FnSucceededTasksExactWrongFalsely : Prop := fnSucceededTasksExactRow.holds Trym.pinned (OpenSpec.ofChange fnSucceededTasksExactWrong)

/-- 'zzlaws_store_b1.FnSucceededTasksLogAgreesWithNextStage': WHATEVER THE INPUT: true; the input reads as it did. -/
def fnSucceededTasksLogAgreesWithNextStageSpec : ChangeSpec := { name := "fnSucceededTasksLogAgreesWithNextStage", fn := fun _ => fun
  | [d1, d2, d3, d4, d5] => { results := [.lit (.bool true)], args := [d1, d2, d3, d4, d5] }
  | _ => none }
def fnSucceededTasksLogAgreesWithNextStageRow : OpenClaim := { program := "qxb6601413amods", sum := "60164b0a5ac61fadc40af79d82c544c157299994cab839caa5110799acde1903", func := "example.com/chored/chored/zzlaws_store_b1.FnSucceededTasksLogAgreesWithNextStage", spec := "fnSucceededTasksLogAgreesWithNextStage", make := .lifted ["publicsums"], apart := false }
def FnSucceededTasksLogAgreesWithNextStageSaid : Prop := fnSucceededTasksLogAgreesWithNextStageRow.holds Trym.pinned (OpenSpec.ofChange fnSucceededTasksLogAgreesWithNextStageSpec)

/-- ITS FALSE NEIGHBOUR: 'it returns false'. Refute it at one input. -/
def fnSucceededTasksLogAgreesWithNextStageWrong : ChangeSpec := { name := "fnSucceededTasksLogAgreesWithNextStage", fn := fun _ => fun
  | [d1, d2, d3, d4, d5] => { results := [.lit (.bool false)], args := [d1, d2, d3, d4, d5] }
  | _ => none }
def FnSucceededTasksLogAgreesWithNextStageWrongFalsely : Prop := fnSucceededTasksLogAgreesWithNextStageRow.holds Trym.pinned (OpenSpec.ofChange fnSucceededTasksLogAgreesWithNextStageWrong)

end Rows
end Go.Proofs.Qxb6601413aMods
