/-
  No cell of these rows narrows 'for every input' (looked for: loops, veiled, ifaces, maps, wideKeys, modest, calm, conditions, laid).
  DERIVED. THE GIVEN ROWS OF THIS SEAT. 5 by the template 'for every input the law returns true; each argument reads behind the call as it read before'; 0 by the template 'total and deterministic' (their statements: Qxb6001184aTotals.lean).
  GIVEN WITH THE SEED: the statements are not yours to turn. If you find one false, say at which input.
  Laid BY PROGRAM, IN A SANDBOX (cutbox-rows.mjs): the forced cells as the released guide's own fill.sh prints them over the translation 5ab8abc0c7ccffe1… (all of the seat's roots in one cut). By AI agents, Wed Nov 11 2026. No macro, syntax, notation, axiom, sorry.
-/
import Derived.Test.Qxb6001184aChecked
import GoSem.Claim
import GoSem.ClaimJoined
import GoSem.ClaimMapViews
import Derived.JoinedTies
import Derived.KernelRfl
namespace Go.Proofs.Qxb6001184a
/- THE CELL 'sum', in the pinned program and in every row, IS THE sha256 OF THE DUMP (.gsa) THAT Qxb6001184aProg.lean LOADS. Nothing in Lean hashes anything: it is a label: what it is worth is what the hold of that sum in a sandbox is worth. -/
noncomputable def Try.pinned : Pinned := { name := "qxb6001184a", sum := "5ab8abc0c7ccffe1d718c77096ded685f13cc453379594fd3879ad6e018a0681", checked := Try.checked }
namespace Rows
def none {H : Type} : Left H := { results := [], args := [] }

/-- 'zzlaws_internal_pdf_b1.FnNumberReadsIntegers': WHATEVER THE INPUT: true; the input reads as it did. -/
def fnNumberReadsIntegersSpec : ChangeSpec := { name := "fnNumberReadsIntegers", fn := fun _ => fun
  | [d1, d2, d3] => { results := [.lit (.bool true)], args := [d1, d2, d3] }
  | _ => none }
def fnNumberReadsIntegersRow : OpenClaim := { program := "qxb6001184a", sum := "5ab8abc0c7ccffe1d718c77096ded685f13cc453379594fd3879ad6e018a0681", func := "example.com/groundwell/groundwell/zzlaws_internal_pdf_b1.FnNumberReadsIntegers", spec := "fnNumberReadsIntegers", apart := false }
def FnNumberReadsIntegersSaid : Prop := fnNumberReadsIntegersRow.holds Try.pinned (OpenSpec.ofChange fnNumberReadsIntegersSpec)

/-- ITS FALSE NEIGHBOUR: 'it returns false'. Refute it at one input. -/
def fnNumberReadsIntegersWrong : ChangeSpec := { name := "fnNumberReadsIntegers", fn := fun _ => fun
  | [d1, d2, d3] => { results := [.lit (.bool false)], args := [d1, d2, d3] }
  | _ => none }
def FnNumberReadsIntegersWrongFalsely : Prop := fnNumberReadsIntegersRow.holds Try.pinned (OpenSpec.ofChange fnNumberReadsIntegersWrong)

/-- 'zzlaws_internal_pdf_b1.FnNumberSignSymmetric': WHATEVER THE INPUT: true; the input reads as it did. -/
def fnNumberSignSymmetricSpec : ChangeSpec := { name := "fnNumberSignSymmetric", fn := fun _ => fun
  | [d] => { results := [.lit (.bool true)], args := [d] }
  | _ => none }
def fnNumberSignSymmetricRow : OpenClaim := { program := "qxb6001184a", sum := "5ab8abc0c7ccffe1d718c77096ded685f13cc453379594fd3879ad6e018a0681", func := "example.com/groundwell/groundwell/zzlaws_internal_pdf_b1.FnNumberSignSymmetric", spec := "fnNumberSignSymmetric", apart := false }
def FnNumberSignSymmetricSaid : Prop := fnNumberSignSymmetricRow.holds Try.pinned (OpenSpec.ofChange fnNumberSignSymmetricSpec)

/-- ITS FALSE NEIGHBOUR: 'it returns false'. Refute it at one input. -/
def fnNumberSignSymmetricWrong : ChangeSpec := { name := "fnNumberSignSymmetric", fn := fun _ => fun
  | [d] => { results := [.lit (.bool false)], args := [d] }
  | _ => none }
def FnNumberSignSymmetricWrongFalsely : Prop := fnNumberSignSymmetricRow.holds Try.pinned (OpenSpec.ofChange fnNumberSignSymmetricWrong)

/-- 'zzlaws_internal_pdf_b1.FnNumberPointAgreesWithInteger': WHATEVER THE INPUT: true; the input reads as it did. -/
def fnNumberPointAgreesWithIntegerSpec : ChangeSpec := { name := "fnNumberPointAgreesWithInteger", fn := fun _ => fun
  | [d1, d2, d3] => { results := [.lit (.bool true)], args := [d1, d2, d3] }
  | _ => none }
def fnNumberPointAgreesWithIntegerRow : OpenClaim := { program := "qxb6001184a", sum := "5ab8abc0c7ccffe1d718c77096ded685f13cc453379594fd3879ad6e018a0681", func := "example.com/groundwell/groundwell/zzlaws_internal_pdf_b1.FnNumberPointAgreesWithInteger", spec := "fnNumberPointAgreesWithInteger", apart := false }
def FnNumberPointAgreesWithIntegerSaid : Prop := fnNumberPointAgreesWithIntegerRow.holds Try.pinned (OpenSpec.ofChange fnNumberPointAgreesWithIntegerSpec)

/-- ITS FALSE NEIGHBOUR: 'it returns false'. Refute it at one input. -/
def fnNumberPointAgreesWithIntegerWrong : ChangeSpec := { name := "fnNumberPointAgreesWithInteger", fn := fun _ => fun
  | [d1, d2, d3] => { results := [.lit (.bool false)], args := [d1, d2, d3] }
  | _ => none }
def FnNumberPointAgreesWithIntegerWrongFalsely : Prop := fnNumberPointAgreesWithIntegerRow.holds Try.pinned (OpenSpec.ofChange fnNumberPointAgreesWithIntegerWrong)

/-- 'zzlaws_internal_pdf_b1.FnReadDictDecodesScript': WHATEVER THE INPUT: true; the input reads as it did. -/
def fnReadDictDecodesScriptSpec : ChangeSpec := { name := "fnReadDictDecodesScript", fn := fun _ => fun
  | [d1, d2, d3] => { results := [.lit (.bool true)], args := [d1, d2, d3] }
  | _ => none }
def fnReadDictDecodesScriptRow : OpenClaim := { program := "qxb6001184a", sum := "5ab8abc0c7ccffe1d718c77096ded685f13cc453379594fd3879ad6e018a0681", func := "example.com/groundwell/groundwell/zzlaws_internal_pdf_b1.FnReadDictDecodesScript", spec := "fnReadDictDecodesScript", apart := false }
def FnReadDictDecodesScriptSaid : Prop := fnReadDictDecodesScriptRow.holds Try.pinned (OpenSpec.ofChange fnReadDictDecodesScriptSpec)

/-- ITS FALSE NEIGHBOUR: 'it returns false'. Refute it at one input. -/
def fnReadDictDecodesScriptWrong : ChangeSpec := { name := "fnReadDictDecodesScript", fn := fun _ => fun
  | [d1, d2, d3] => { results := [.lit (.bool false)], args := [d1, d2, d3] }
  | _ => none }
def FnReadDictDecodesScriptWrongFalsely : Prop := fnReadDictDecodesScriptRow.holds Try.pinned (OpenSpec.ofChange fnReadDictDecodesScriptWrong)

/-- 'zzlaws_internal_pdf_b1.FnReadDictKeysAreOperators': WHATEVER THE INPUT: true; the input reads as it did. -/
def fnReadDictKeysAreOperatorsSpec : ChangeSpec := { name := "fnReadDictKeysAreOperators", fn := fun _ => fun
  | [d] => { results := [.lit (.bool true)], args := [d] }
  | _ => none }
def fnReadDictKeysAreOperatorsRow : OpenClaim := { program := "qxb6001184a", sum := "5ab8abc0c7ccffe1d718c77096ded685f13cc453379594fd3879ad6e018a0681", func := "example.com/groundwell/groundwell/zzlaws_internal_pdf_b1.FnReadDictKeysAreOperators", spec := "fnReadDictKeysAreOperators", apart := false }
def FnReadDictKeysAreOperatorsSaid : Prop := fnReadDictKeysAreOperatorsRow.holds Try.pinned (OpenSpec.ofChange fnReadDictKeysAreOperatorsSpec)

/-- ITS FALSE NEIGHBOUR: 'it returns false'. Refute it at one input. -/
def fnReadDictKeysAreOperatorsWrong : ChangeSpec := { name := "fnReadDictKeysAreOperators", fn := fun _ => fun
  | [d] => { results := [.lit (.bool false)], args := [d] }
  | _ => none }
def FnReadDictKeysAreOperatorsWrongFalsely : Prop := fnReadDictKeysAreOperatorsRow.holds Try.pinned (OpenSpec.ofChange fnReadDictKeysAreOperatorsWrong)

end Rows
end Go.Proofs.Qxb6001184a
