/-
  No cell of these rows narrows 'for every input' (looked for: loops, veiled, ifaces, maps, wideKeys, modest, calm, conditions, laid).
  DERIVED. THE GIVEN ROWS OF THIS SEAT. 7 by the template 'for every input the law returns true; each argument reads behind the call as it read before'; 0 by the template 'total and deterministic' (their statements: Qxb6602115aTotals.lean).
  GIVEN WITH THE SEED: the statements are not yours to turn. If you find one false, say at which input.
  Laid BY PROGRAM, IN A SANDBOX (cutbox-rows.mjs): the forced cells as the released guide's own fill.sh prints them over the translation 41dea42ec6cec2af… (all of the seat's roots in one cut). By AI agents, Wed Nov 11 2026. No macro, syntax, notation, axiom, sorry.
-/
import Derived.Test.Qxb6602115aChecked
import GoSem.Claim
import GoSem.ClaimJoined
import GoSem.ClaimMapViews
import Derived.JoinedTies
import Derived.KernelRfl
namespace Go.Proofs.Qxb6602115a
/- THE CELL 'sum', in the pinned program and in every row, IS THE sha256 OF THE DUMP (.gsa) THAT Qxb6602115aProg.lean LOADS. Nothing in Lean hashes anything: it is a label: what it is worth is what the hold of that sum in a sandbox is worth. -/
noncomputable def Try.pinned : Pinned := { name := "qxb6602115a", sum := "41dea42ec6cec2afd55b6cf439038874be3d6f57cda29b505a10dfac8a727462", checked := Try.checked }
namespace Rows
def none {H : Type} : Left H := { results := [], args := [] }

/-- 'zzlaws_internal_rouge_b1.FnStep1bMatchesPorterRules': WHATEVER THE INPUT: true; the input reads as it did. -/
def fnStep1bMatchesPorterRulesSpec : ChangeSpec := { name := "fnStep1bMatchesPorterRules", fn := fun _ => fun
  | [d] => { results := [.lit (.bool true)], args := [d] }
  | _ => none }
def fnStep1bMatchesPorterRulesRow : OpenClaim := { program := "qxb6602115a", sum := "41dea42ec6cec2afd55b6cf439038874be3d6f57cda29b505a10dfac8a727462", func := "example.com/invigilator/invigilator/zzlaws_internal_rouge_b1.FnStep1bMatchesPorterRules", spec := "fnStep1bMatchesPorterRules", apart := false }
def FnStep1bMatchesPorterRulesSaid : Prop := fnStep1bMatchesPorterRulesRow.holds Try.pinned (OpenSpec.ofChange fnStep1bMatchesPorterRulesSpec)

/-- ITS FALSE NEIGHBOUR: 'it returns false'. Refute it at one input. -/
def fnStep1bMatchesPorterRulesWrong : ChangeSpec := { name := "fnStep1bMatchesPorterRules", fn := fun _ => fun
  | [d] => { results := [.lit (.bool false)], args := [d] }
  | _ => none }
def FnStep1bMatchesPorterRulesWrongFalsely : Prop := fnStep1bMatchesPorterRulesRow.holds Try.pinned (OpenSpec.ofChange fnStep1bMatchesPorterRulesWrong)

/-- 'zzlaws_internal_rouge_b1.FnStep1bCutsAtMostFourAndAddsOnlyE': WHATEVER THE INPUT: true; the input reads as it did. -/
def fnStep1bCutsAtMostFourAndAddsOnlyESpec : ChangeSpec := { name := "fnStep1bCutsAtMostFourAndAddsOnlyE", fn := fun _ => fun
  | [d] => { results := [.lit (.bool true)], args := [d] }
  | _ => none }
def fnStep1bCutsAtMostFourAndAddsOnlyERow : OpenClaim := { program := "qxb6602115a", sum := "41dea42ec6cec2afd55b6cf439038874be3d6f57cda29b505a10dfac8a727462", func := "example.com/invigilator/invigilator/zzlaws_internal_rouge_b1.FnStep1bCutsAtMostFourAndAddsOnlyE", spec := "fnStep1bCutsAtMostFourAndAddsOnlyE", apart := false }
def FnStep1bCutsAtMostFourAndAddsOnlyESaid : Prop := fnStep1bCutsAtMostFourAndAddsOnlyERow.holds Try.pinned (OpenSpec.ofChange fnStep1bCutsAtMostFourAndAddsOnlyESpec)

/-- ITS FALSE NEIGHBOUR: 'it returns false'. Refute it at one input. -/
def fnStep1bCutsAtMostFourAndAddsOnlyEWrong : ChangeSpec := { name := "fnStep1bCutsAtMostFourAndAddsOnlyE", fn := fun _ => fun
  | [d] => { results := [.lit (.bool false)], args := [d] }
  | _ => none }
def FnStep1bCutsAtMostFourAndAddsOnlyEWrongFalsely : Prop := fnStep1bCutsAtMostFourAndAddsOnlyERow.holds Try.pinned (OpenSpec.ofChange fnStep1bCutsAtMostFourAndAddsOnlyEWrong)

/-- 'zzlaws_internal_rouge_b1.FnStep1bLeavesWordsWithoutEdOrIngWhole': WHATEVER THE INPUT: true; the input reads as it did. -/
def fnStep1bLeavesWordsWithoutEdOrIngWholeSpec : ChangeSpec := { name := "fnStep1bLeavesWordsWithoutEdOrIngWhole", fn := fun _ => fun
  | [d] => { results := [.lit (.bool true)], args := [d] }
  | _ => none }
def fnStep1bLeavesWordsWithoutEdOrIngWholeRow : OpenClaim := { program := "qxb6602115a", sum := "41dea42ec6cec2afd55b6cf439038874be3d6f57cda29b505a10dfac8a727462", func := "example.com/invigilator/invigilator/zzlaws_internal_rouge_b1.FnStep1bLeavesWordsWithoutEdOrIngWhole", spec := "fnStep1bLeavesWordsWithoutEdOrIngWhole", apart := false }
def FnStep1bLeavesWordsWithoutEdOrIngWholeSaid : Prop := fnStep1bLeavesWordsWithoutEdOrIngWholeRow.holds Try.pinned (OpenSpec.ofChange fnStep1bLeavesWordsWithoutEdOrIngWholeSpec)

/-- ITS FALSE NEIGHBOUR: 'it returns false'. Refute it at one input. -/
def fnStep1bLeavesWordsWithoutEdOrIngWholeWrong : ChangeSpec := { name := "fnStep1bLeavesWordsWithoutEdOrIngWhole", fn := fun _ => fun
  | [d] => { results := [.lit (.bool false)], args := [d] }
  | _ => none }
def FnStep1bLeavesWordsWithoutEdOrIngWholeWrongFalsely : Prop := fnStep1bLeavesWordsWithoutEdOrIngWholeRow.holds Try.pinned (OpenSpec.ofChange fnStep1bLeavesWordsWithoutEdOrIngWholeWrong)

/-- 'zzlaws_internal_rouge_b1.FnEndsCVCMatchesLetterClasses': WHATEVER THE INPUT: true; the input reads as it did. -/
def fnEndsCVCMatchesLetterClassesSpec : ChangeSpec := { name := "fnEndsCVCMatchesLetterClasses", fn := fun _ => fun
  | [d] => { results := [.lit (.bool true)], args := [d] }
  | _ => none }
def fnEndsCVCMatchesLetterClassesRow : OpenClaim := { program := "qxb6602115a", sum := "41dea42ec6cec2afd55b6cf439038874be3d6f57cda29b505a10dfac8a727462", func := "example.com/invigilator/invigilator/zzlaws_internal_rouge_b1.FnEndsCVCMatchesLetterClasses", spec := "fnEndsCVCMatchesLetterClasses", apart := false }
def FnEndsCVCMatchesLetterClassesSaid : Prop := fnEndsCVCMatchesLetterClassesRow.holds Try.pinned (OpenSpec.ofChange fnEndsCVCMatchesLetterClassesSpec)

/-- ITS FALSE NEIGHBOUR: 'it returns false'. Refute it at one input. -/
def fnEndsCVCMatchesLetterClassesWrong : ChangeSpec := { name := "fnEndsCVCMatchesLetterClasses", fn := fun _ => fun
  | [d] => { results := [.lit (.bool false)], args := [d] }
  | _ => none }
def FnEndsCVCMatchesLetterClassesWrongFalsely : Prop := fnEndsCVCMatchesLetterClassesRow.holds Try.pinned (OpenSpec.ofChange fnEndsCVCMatchesLetterClassesWrong)

/-- 'zzlaws_internal_rouge_b1.FnEndsCVCIgnoresLettersBeforeTheLastThree': WHATEVER THE INPUT: true; the input reads as it did. -/
def fnEndsCVCIgnoresLettersBeforeTheLastThreeSpec : ChangeSpec := { name := "fnEndsCVCIgnoresLettersBeforeTheLastThree", fn := fun _ => fun
  | [d1, d2] => { results := [.lit (.bool true)], args := [d1, d2] }
  | _ => none }
def fnEndsCVCIgnoresLettersBeforeTheLastThreeRow : OpenClaim := { program := "qxb6602115a", sum := "41dea42ec6cec2afd55b6cf439038874be3d6f57cda29b505a10dfac8a727462", func := "example.com/invigilator/invigilator/zzlaws_internal_rouge_b1.FnEndsCVCIgnoresLettersBeforeTheLastThree", spec := "fnEndsCVCIgnoresLettersBeforeTheLastThree", apart := false }
def FnEndsCVCIgnoresLettersBeforeTheLastThreeSaid : Prop := fnEndsCVCIgnoresLettersBeforeTheLastThreeRow.holds Try.pinned (OpenSpec.ofChange fnEndsCVCIgnoresLettersBeforeTheLastThreeSpec)

/-- ITS FALSE NEIGHBOUR: 'it returns false'. Refute it at one input. -/
def fnEndsCVCIgnoresLettersBeforeTheLastThreeWrong : ChangeSpec := { name := "fnEndsCVCIgnoresLettersBeforeTheLastThree", fn := fun _ => fun
  | [d1, d2] => { results := [.lit (.bool false)], args := [d1, d2] }
  | _ => none }
def FnEndsCVCIgnoresLettersBeforeTheLastThreeWrongFalsely : Prop := fnEndsCVCIgnoresLettersBeforeTheLastThreeRow.holds Try.pinned (OpenSpec.ofChange fnEndsCVCIgnoresLettersBeforeTheLastThreeWrong)

/-- 'zzlaws_internal_rouge_b1.FnResetCountsEveryDistinctGramOnce': WHATEVER THE INPUT: true; the input reads as it did. -/
def fnResetCountsEveryDistinctGramOnceSpec : ChangeSpec := { name := "fnResetCountsEveryDistinctGramOnce", fn := fun _ => fun
  | [d1, d2, d3] => { results := [.lit (.bool true)], args := [d1, d2, d3] }
  | _ => none }
def fnResetCountsEveryDistinctGramOnceRow : OpenClaim := { program := "qxb6602115a", sum := "41dea42ec6cec2afd55b6cf439038874be3d6f57cda29b505a10dfac8a727462", func := "example.com/invigilator/invigilator/zzlaws_internal_rouge_b1.FnResetCountsEveryDistinctGramOnce", spec := "fnResetCountsEveryDistinctGramOnce", apart := false }
def FnResetCountsEveryDistinctGramOnceSaid : Prop := fnResetCountsEveryDistinctGramOnceRow.holds Try.pinned (OpenSpec.ofChange fnResetCountsEveryDistinctGramOnceSpec)

/-- ITS FALSE NEIGHBOUR: 'it returns false'. Refute it at one input. -/
def fnResetCountsEveryDistinctGramOnceWrong : ChangeSpec := { name := "fnResetCountsEveryDistinctGramOnce", fn := fun _ => fun
  | [d1, d2, d3] => { results := [.lit (.bool false)], args := [d1, d2, d3] }
  | _ => none }
def FnResetCountsEveryDistinctGramOnceWrongFalsely : Prop := fnResetCountsEveryDistinctGramOnceRow.holds Try.pinned (OpenSpec.ofChange fnResetCountsEveryDistinctGramOnceWrong)

/-- 'zzlaws_internal_rouge_b1.FnResetPutsEveryGramOnItsProbePath': WHATEVER THE INPUT: true; the input reads as it did. -/
def fnResetPutsEveryGramOnItsProbePathSpec : ChangeSpec := { name := "fnResetPutsEveryGramOnItsProbePath", fn := fun _ => fun
  | [d1, d2, d3] => { results := [.lit (.bool true)], args := [d1, d2, d3] }
  | _ => none }
def fnResetPutsEveryGramOnItsProbePathRow : OpenClaim := { program := "qxb6602115a", sum := "41dea42ec6cec2afd55b6cf439038874be3d6f57cda29b505a10dfac8a727462", func := "example.com/invigilator/invigilator/zzlaws_internal_rouge_b1.FnResetPutsEveryGramOnItsProbePath", spec := "fnResetPutsEveryGramOnItsProbePath", apart := false }
def FnResetPutsEveryGramOnItsProbePathSaid : Prop := fnResetPutsEveryGramOnItsProbePathRow.holds Try.pinned (OpenSpec.ofChange fnResetPutsEveryGramOnItsProbePathSpec)

/-- ITS FALSE NEIGHBOUR: 'it returns false'. Refute it at one input. -/
def fnResetPutsEveryGramOnItsProbePathWrong : ChangeSpec := { name := "fnResetPutsEveryGramOnItsProbePath", fn := fun _ => fun
  | [d1, d2, d3] => { results := [.lit (.bool false)], args := [d1, d2, d3] }
  | _ => none }
def FnResetPutsEveryGramOnItsProbePathWrongFalsely : Prop := fnResetPutsEveryGramOnItsProbePathRow.holds Try.pinned (OpenSpec.ofChange fnResetPutsEveryGramOnItsProbePathWrong)

end Rows
end Go.Proofs.Qxb6602115a
