/-
  No cell of these rows narrows 'for every input' (looked for: loops, veiled, ifaces, maps, wideKeys, modest, calm, conditions, laid).
  DERIVED. THE GIVEN ROWS OF THIS SEAT. 2 by the template 'for every input the law returns true; each argument reads behind the call as it read before'; 0 by the template 'total and deterministic' (their statements: Qxb6600355aTotals.lean).
  GIVEN WITH THE SEED: the statements are not yours to turn. If you find one false, say at which input.
  Laid BY PROGRAM, IN A SANDBOX (cutbox-rows.mjs): the forced cells as the released guide's own fill.sh prints them over the translation 53e47edfdd287615… (all of the seat's roots in one cut). By AI agents, Wed Nov 11 2026. No macro, syntax, notation, axiom, sorry.
-/
import Derived.Test.Qxb6600355aChecked
import GoSem.Claim
import GoSem.ClaimJoined
import GoSem.ClaimMapViews
import Derived.JoinedTies
import Derived.KernelRfl
namespace Go.Proofs.Qxb6600355a
/- THE CELL 'sum', in the pinned program and in every row, IS THE sha256 OF THE DUMP (.gsa) THAT Qxb6600355aProg.lean LOADS. Nothing in Lean hashes anything: it is a label: what it is worth is what the hold of that sum in a sandbox is worth. -/
noncomputable def Try.pinned : Pinned := { name := "qxb6600355a", sum := "53e47edfdd287615d9a8893735dc59934247ae655802b699bba9b1e60a3e6510", checked := Try.checked }
namespace Rows
def none {H : Type} : Left H := { results := [], args := [] }

/-- 'zzlaws_internal_numtext_b1.FnCountDigitsSpec': WHATEVER THE INPUT: true; the input reads as it did. -/
def fnCountDigitsSpecSpec : ChangeSpec := { name := "fnCountDigitsSpec", fn := fun _ => fun
  | [d] => { results := [.lit (.bool true)], args := [d] }
  | _ => none }
def fnCountDigitsSpecRow : OpenClaim := { program := "qxb6600355a", sum := "53e47edfdd287615d9a8893735dc59934247ae655802b699bba9b1e60a3e6510", func := "example.com/versionlane/versionlane/zzlaws_internal_numtext_b1.FnCountDigitsSpec", spec := "fnCountDigitsSpec", apart := false }
def FnCountDigitsSpecSaid : Prop := fnCountDigitsSpecRow.holds Try.pinned (OpenSpec.ofChange fnCountDigitsSpecSpec)

/-- ITS FALSE NEIGHBOUR: 'it returns false'. Refute it at one input. -/
def fnCountDigitsSpecWrong : ChangeSpec := { name := "fnCountDigitsSpec", fn := fun _ => fun
  | [d] => { results := [.lit (.bool false)], args := [d] }
  | _ => none }
def FnCountDigitsSpecWrongFalsely : Prop := fnCountDigitsSpecRow.holds Try.pinned (OpenSpec.ofChange fnCountDigitsSpecWrong)

/-- 'zzlaws_internal_numtext_b1.FnCountDigitsConcat': WHATEVER THE INPUT: true; the input reads as it did. -/
def fnCountDigitsConcatSpec : ChangeSpec := { name := "fnCountDigitsConcat", fn := fun _ => fun
  | [d1, d2] => { results := [.lit (.bool true)], args := [d1, d2] }
  | _ => none }
def fnCountDigitsConcatRow : OpenClaim := { program := "qxb6600355a", sum := "53e47edfdd287615d9a8893735dc59934247ae655802b699bba9b1e60a3e6510", func := "example.com/versionlane/versionlane/zzlaws_internal_numtext_b1.FnCountDigitsConcat", spec := "fnCountDigitsConcat", apart := false }
def FnCountDigitsConcatSaid : Prop := fnCountDigitsConcatRow.holds Try.pinned (OpenSpec.ofChange fnCountDigitsConcatSpec)

/-- ITS FALSE NEIGHBOUR: 'it returns false'. Refute it at one input. -/
def fnCountDigitsConcatWrong : ChangeSpec := { name := "fnCountDigitsConcat", fn := fun _ => fun
  | [d1, d2] => { results := [.lit (.bool false)], args := [d1, d2] }
  | _ => none }
def FnCountDigitsConcatWrongFalsely : Prop := fnCountDigitsConcatRow.holds Try.pinned (OpenSpec.ofChange fnCountDigitsConcatWrong)

end Rows
end Go.Proofs.Qxb6600355a
