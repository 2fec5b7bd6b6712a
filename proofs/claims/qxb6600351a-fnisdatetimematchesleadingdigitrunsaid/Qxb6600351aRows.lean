/-
  No cell of these rows narrows 'for every input' (looked for: loops, veiled, ifaces, maps, wideKeys, modest, calm, conditions, laid).
  DERIVED. THE GIVEN ROWS OF THIS SEAT. 5 by the template 'for every input the law returns true; each argument reads behind the call as it read before'; 0 by the template 'total and deterministic' (their statements: Qxb6600351aTotals.lean).
  GIVEN WITH THE SEED: the statements are not yours to turn. If you find one false, say at which input.
  Laid BY PROGRAM, IN A SANDBOX (cutbox-rows.mjs): the forced cells as the released guide's own fill.sh prints them over the translation a6a66a86fe09c06f… (all of the seat's roots in one cut). By AI agents, Wed Nov 11 2026. No macro, syntax, notation, axiom, sorry.
-/
import Derived.Test.Qxb6600351aChecked
import GoSem.Claim
import GoSem.ClaimJoined
import GoSem.ClaimMapViews
import Derived.JoinedTies
import Derived.KernelRfl
namespace Go.Proofs.Qxb6600351a
/- THE CELL 'sum', in the pinned program and in every row, IS THE sha256 OF THE DUMP (.gsa) THAT Qxb6600351aProg.lean LOADS. Nothing in Lean hashes anything: it is a label: what it is worth is what the hold of that sum in a sandbox is worth. -/
noncomputable def Try.pinned : Pinned := { name := "qxb6600351a", sum := "a6a66a86fe09c06fb749641ce883df2956d01762d16abf41309165db2ebd00bb", checked := Try.checked }
namespace Rows
def none {H : Type} : Left H := { results := [], args := [] }

/-- 'zzlaws_internal_configfile_b1.FnIsDateTimeMatchesLeadingDigitRun': WHATEVER THE INPUT: true; the input reads as it did. -/
def fnIsDateTimeMatchesLeadingDigitRunSpec : ChangeSpec := { name := "fnIsDateTimeMatchesLeadingDigitRun", fn := fun _ => fun
  | [d] => { results := [.lit (.bool true)], args := [d] }
  | _ => none }
def fnIsDateTimeMatchesLeadingDigitRunRow : OpenClaim := { program := "qxb6600351a", sum := "a6a66a86fe09c06fb749641ce883df2956d01762d16abf41309165db2ebd00bb", func := "example.com/cairn/cairn/zzlaws_internal_configfile_b1.FnIsDateTimeMatchesLeadingDigitRun", spec := "fnIsDateTimeMatchesLeadingDigitRun", unfollowed := true, recurses := true, apart := false }
def FnIsDateTimeMatchesLeadingDigitRunSaid : Prop := fnIsDateTimeMatchesLeadingDigitRunRow.holds Try.pinned (OpenSpec.ofChange fnIsDateTimeMatchesLeadingDigitRunSpec)

/-- ITS FALSE NEIGHBOUR: 'it returns false'. Refute it at one input. -/
def fnIsDateTimeMatchesLeadingDigitRunWrong : ChangeSpec := { name := "fnIsDateTimeMatchesLeadingDigitRun", fn := fun _ => fun
  | [d] => { results := [.lit (.bool false)], args := [d] }
  | _ => none }
def FnIsDateTimeMatchesLeadingDigitRunWrongFalsely : Prop := fnIsDateTimeMatchesLeadingDigitRunRow.holds Try.pinned (OpenSpec.ofChange fnIsDateTimeMatchesLeadingDigitRunWrong)

/-- 'zzlaws_internal_configfile_b1.FnIsDateTimeDecidedByItsBeginning': WHATEVER THE INPUT: true; the input reads as it did. -/
def fnIsDateTimeDecidedByItsBeginningSpec : ChangeSpec := { name := "fnIsDateTimeDecidedByItsBeginning", fn := fun _ => fun
  | [d1, d2] => { results := [.lit (.bool true)], args := [d1, d2] }
  | _ => none }
def fnIsDateTimeDecidedByItsBeginningRow : OpenClaim := { program := "qxb6600351a", sum := "a6a66a86fe09c06fb749641ce883df2956d01762d16abf41309165db2ebd00bb", func := "example.com/cairn/cairn/zzlaws_internal_configfile_b1.FnIsDateTimeDecidedByItsBeginning", spec := "fnIsDateTimeDecidedByItsBeginning", unfollowed := true, recurses := true, apart := false }
def FnIsDateTimeDecidedByItsBeginningSaid : Prop := fnIsDateTimeDecidedByItsBeginningRow.holds Try.pinned (OpenSpec.ofChange fnIsDateTimeDecidedByItsBeginningSpec)

/-- ITS FALSE NEIGHBOUR: 'it returns false'. Refute it at one input. -/
def fnIsDateTimeDecidedByItsBeginningWrong : ChangeSpec := { name := "fnIsDateTimeDecidedByItsBeginning", fn := fun _ => fun
  | [d1, d2] => { results := [.lit (.bool false)], args := [d1, d2] }
  | _ => none }
def FnIsDateTimeDecidedByItsBeginningWrongFalsely : Prop := fnIsDateTimeDecidedByItsBeginningRow.holds Try.pinned (OpenSpec.ofChange fnIsDateTimeDecidedByItsBeginningWrong)

/-- 'zzlaws_internal_configfile_b1.FnDigitValueMatchesHexTable': WHATEVER THE INPUT: true; the input reads as it did. -/
def fnDigitValueMatchesHexTableSpec : ChangeSpec := { name := "fnDigitValueMatchesHexTable", fn := fun _ => fun
  | [d] => { results := [.lit (.bool true)], args := [d] }
  | _ => none }
def fnDigitValueMatchesHexTableRow : OpenClaim := { program := "qxb6600351a", sum := "a6a66a86fe09c06fb749641ce883df2956d01762d16abf41309165db2ebd00bb", func := "example.com/cairn/cairn/zzlaws_internal_configfile_b1.FnDigitValueMatchesHexTable", spec := "fnDigitValueMatchesHexTable", apart := false }
def FnDigitValueMatchesHexTableSaid : Prop := fnDigitValueMatchesHexTableRow.holds Try.pinned (OpenSpec.ofChange fnDigitValueMatchesHexTableSpec)

/-- ITS FALSE NEIGHBOUR: 'it returns false'. Refute it at one input. -/
def fnDigitValueMatchesHexTableWrong : ChangeSpec := { name := "fnDigitValueMatchesHexTable", fn := fun _ => fun
  | [d] => { results := [.lit (.bool false)], args := [d] }
  | _ => none }
def FnDigitValueMatchesHexTableWrongFalsely : Prop := fnDigitValueMatchesHexTableRow.holds Try.pinned (OpenSpec.ofChange fnDigitValueMatchesHexTableWrong)

/-- 'zzlaws_internal_configfile_b1.FnDigitValueIsCaseBlind': WHATEVER THE INPUT: true; the input reads as it did. -/
def fnDigitValueIsCaseBlindSpec : ChangeSpec := { name := "fnDigitValueIsCaseBlind", fn := fun _ => fun
  | [d] => { results := [.lit (.bool true)], args := [d] }
  | _ => none }
def fnDigitValueIsCaseBlindRow : OpenClaim := { program := "qxb6600351a", sum := "a6a66a86fe09c06fb749641ce883df2956d01762d16abf41309165db2ebd00bb", func := "example.com/cairn/cairn/zzlaws_internal_configfile_b1.FnDigitValueIsCaseBlind", spec := "fnDigitValueIsCaseBlind", apart := false }
def FnDigitValueIsCaseBlindSaid : Prop := fnDigitValueIsCaseBlindRow.holds Try.pinned (OpenSpec.ofChange fnDigitValueIsCaseBlindSpec)

/-- ITS FALSE NEIGHBOUR: 'it returns false'. Refute it at one input. -/
def fnDigitValueIsCaseBlindWrong : ChangeSpec := { name := "fnDigitValueIsCaseBlind", fn := fun _ => fun
  | [d] => { results := [.lit (.bool false)], args := [d] }
  | _ => none }
def FnDigitValueIsCaseBlindWrongFalsely : Prop := fnDigitValueIsCaseBlindRow.holds Try.pinned (OpenSpec.ofChange fnDigitValueIsCaseBlindWrong)

/-- 'zzlaws_internal_configfile_b1.FnDigitValueBoundedAndInjectiveUpToCase': WHATEVER THE INPUT: true; the input reads as it did. -/
def fnDigitValueBoundedAndInjectiveUpToCaseSpec : ChangeSpec := { name := "fnDigitValueBoundedAndInjectiveUpToCase", fn := fun _ => fun
  | [d1, d2] => { results := [.lit (.bool true)], args := [d1, d2] }
  | _ => none }
def fnDigitValueBoundedAndInjectiveUpToCaseRow : OpenClaim := { program := "qxb6600351a", sum := "a6a66a86fe09c06fb749641ce883df2956d01762d16abf41309165db2ebd00bb", func := "example.com/cairn/cairn/zzlaws_internal_configfile_b1.FnDigitValueBoundedAndInjectiveUpToCase", spec := "fnDigitValueBoundedAndInjectiveUpToCase", apart := false }
def FnDigitValueBoundedAndInjectiveUpToCaseSaid : Prop := fnDigitValueBoundedAndInjectiveUpToCaseRow.holds Try.pinned (OpenSpec.ofChange fnDigitValueBoundedAndInjectiveUpToCaseSpec)

/-- ITS FALSE NEIGHBOUR: 'it returns false'. Refute it at one input. -/
def fnDigitValueBoundedAndInjectiveUpToCaseWrong : ChangeSpec := { name := "fnDigitValueBoundedAndInjectiveUpToCase", fn := fun _ => fun
  | [d1, d2] => { results := [.lit (.bool false)], args := [d1, d2] }
  | _ => none }
def FnDigitValueBoundedAndInjectiveUpToCaseWrongFalsely : Prop := fnDigitValueBoundedAndInjectiveUpToCaseRow.holds Try.pinned (OpenSpec.ofChange fnDigitValueBoundedAndInjectiveUpToCaseWrong)

end Rows
end Go.Proofs.Qxb6600351a
