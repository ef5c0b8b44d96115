/-
  No cell of these rows narrows 'for every input' (looked for: loops, veiled, ifaces, maps, wideKeys, modest, calm, conditions, laid).
  DERIVED. THE GIVEN ROWS OF THIS SEAT. 6 by the template 'for every input the law returns true; each argument reads behind the call as it read before'; 0 by the template 'total and deterministic' (their statements: Qxb6600005aTotals.lean).
  GIVEN WITH THE SEED: the statements are not yours to turn. If you find one false, say at which input.
  Laid BY PROGRAM, IN A SANDBOX (cutbox-rows.mjs): the forced cells as the released guide's own fill.sh prints them over the translation c7361ea1a4adf6f8… (all of the seat's roots in one cut). By AI agents, Wed Nov 11 2026. No macro, syntax, notation, axiom, sorry.
-/
import Derived.Test.Qxb6600005aChecked
import GoSem.Claim
import GoSem.ClaimJoined
import GoSem.ClaimMapViews
import Derived.JoinedTies
import Derived.KernelRfl
namespace Go.Proofs.Qxb6600005a
/- THE CELL 'sum', in the pinned program and in every row, IS THE sha256 OF THE DUMP (.gsa) THAT Qxb6600005aProg.lean LOADS. Nothing in Lean hashes anything: it is a label: what it is worth is what the hold of that sum in a sandbox is worth. -/
noncomputable def Try.pinned : Pinned := { name := "qxb6600005a", sum := "c7361ea1a4adf6f8a7055e7a035dec5e379187b0eea32fb8307c8ea3dc52d8e0", checked := Try.checked }
namespace Rows
def none {H : Type} : Left H := { results := [], args := [] }

/-- 'zzlaws_internal_coord_b1.FnRolledBackIsRollbackCode': WHATEVER THE INPUT: true; the input reads as it did. -/
def fnRolledBackIsRollbackCodeSpec : ChangeSpec := { name := "fnRolledBackIsRollbackCode", fn := fun _ => fun
  | [d] => { results := [.lit (.bool true)], args := [d] }
  | _ => none }
def fnRolledBackIsRollbackCodeRow : OpenClaim := { program := "qxb6600005a", sum := "c7361ea1a4adf6f8a7055e7a035dec5e379187b0eea32fb8307c8ea3dc52d8e0", func := "example.com/concordat/concordat/zzlaws_internal_coord_b1.FnRolledBackIsRollbackCode", spec := "fnRolledBackIsRollbackCode", apart := false }
def FnRolledBackIsRollbackCodeSaid : Prop := fnRolledBackIsRollbackCodeRow.holds Try.pinned (OpenSpec.ofChange fnRolledBackIsRollbackCodeSpec)

/-- ITS FALSE NEIGHBOUR: 'it returns false'. Refute it at one input. -/
def fnRolledBackIsRollbackCodeWrong : ChangeSpec := { name := "fnRolledBackIsRollbackCode", fn := fun _ => fun
  | [d] => { results := [.lit (.bool false)], args := [d] }
  | _ => none }
def FnRolledBackIsRollbackCodeWrongFalsely : Prop := fnRolledBackIsRollbackCodeRow.holds Try.pinned (OpenSpec.ofChange fnRolledBackIsRollbackCodeWrong)

/-- 'zzlaws_internal_coord_b1.FnRolledBackUnnamedFallsBackToZero': WHATEVER THE INPUT: true; the input reads as it did. -/
def fnRolledBackUnnamedFallsBackToZeroSpec : ChangeSpec := { name := "fnRolledBackUnnamedFallsBackToZero", fn := fun _ => fun
  | [d] => { results := [.lit (.bool true)], args := [d] }
  | _ => none }
def fnRolledBackUnnamedFallsBackToZeroRow : OpenClaim := { program := "qxb6600005a", sum := "c7361ea1a4adf6f8a7055e7a035dec5e379187b0eea32fb8307c8ea3dc52d8e0", func := "example.com/concordat/concordat/zzlaws_internal_coord_b1.FnRolledBackUnnamedFallsBackToZero", spec := "fnRolledBackUnnamedFallsBackToZero", apart := false }
def FnRolledBackUnnamedFallsBackToZeroSaid : Prop := fnRolledBackUnnamedFallsBackToZeroRow.holds Try.pinned (OpenSpec.ofChange fnRolledBackUnnamedFallsBackToZeroSpec)

/-- ITS FALSE NEIGHBOUR: 'it returns false'. Refute it at one input. -/
def fnRolledBackUnnamedFallsBackToZeroWrong : ChangeSpec := { name := "fnRolledBackUnnamedFallsBackToZero", fn := fun _ => fun
  | [d] => { results := [.lit (.bool false)], args := [d] }
  | _ => none }
def FnRolledBackUnnamedFallsBackToZeroWrongFalsely : Prop := fnRolledBackUnnamedFallsBackToZeroRow.holds Try.pinned (OpenSpec.ofChange fnRolledBackUnnamedFallsBackToZeroWrong)

/-- 'zzlaws_internal_coord_b1.FnRolledBackInjectiveOnNamed': WHATEVER THE INPUT: true; the input reads as it did. -/
def fnRolledBackInjectiveOnNamedSpec : ChangeSpec := { name := "fnRolledBackInjectiveOnNamed", fn := fun _ => fun
  | [d1, d2] => { results := [.lit (.bool true)], args := [d1, d2] }
  | _ => none }
def fnRolledBackInjectiveOnNamedRow : OpenClaim := { program := "qxb6600005a", sum := "c7361ea1a4adf6f8a7055e7a035dec5e379187b0eea32fb8307c8ea3dc52d8e0", func := "example.com/concordat/concordat/zzlaws_internal_coord_b1.FnRolledBackInjectiveOnNamed", spec := "fnRolledBackInjectiveOnNamed", apart := false }
def FnRolledBackInjectiveOnNamedSaid : Prop := fnRolledBackInjectiveOnNamedRow.holds Try.pinned (OpenSpec.ofChange fnRolledBackInjectiveOnNamedSpec)

/-- ITS FALSE NEIGHBOUR: 'it returns false'. Refute it at one input. -/
def fnRolledBackInjectiveOnNamedWrong : ChangeSpec := { name := "fnRolledBackInjectiveOnNamed", fn := fun _ => fun
  | [d1, d2] => { results := [.lit (.bool false)], args := [d1, d2] }
  | _ => none }
def FnRolledBackInjectiveOnNamedWrongFalsely : Prop := fnRolledBackInjectiveOnNamedRow.holds Try.pinned (OpenSpec.ofChange fnRolledBackInjectiveOnNamedWrong)

/-- 'zzlaws_internal_coord_b1.FnHeuristicDisjointFromRolledBack': WHATEVER THE INPUT: true; the input reads as it did. -/
def fnHeuristicDisjointFromRolledBackSpec : ChangeSpec := { name := "fnHeuristicDisjointFromRolledBack", fn := fun _ => fun
  | [d1, d2] => { results := [.lit (.bool true)], args := [d1, d2] }
  | _ => none }
def fnHeuristicDisjointFromRolledBackRow : OpenClaim := { program := "qxb6600005a", sum := "c7361ea1a4adf6f8a7055e7a035dec5e379187b0eea32fb8307c8ea3dc52d8e0", func := "example.com/concordat/concordat/zzlaws_internal_coord_b1.FnHeuristicDisjointFromRolledBack", spec := "fnHeuristicDisjointFromRolledBack", apart := false }
def FnHeuristicDisjointFromRolledBackSaid : Prop := fnHeuristicDisjointFromRolledBackRow.holds Try.pinned (OpenSpec.ofChange fnHeuristicDisjointFromRolledBackSpec)

/-- ITS FALSE NEIGHBOUR: 'it returns false'. Refute it at one input. -/
def fnHeuristicDisjointFromRolledBackWrong : ChangeSpec := { name := "fnHeuristicDisjointFromRolledBack", fn := fun _ => fun
  | [d1, d2] => { results := [.lit (.bool false)], args := [d1, d2] }
  | _ => none }
def FnHeuristicDisjointFromRolledBackWrongFalsely : Prop := fnHeuristicDisjointFromRolledBackRow.holds Try.pinned (OpenSpec.ofChange fnHeuristicDisjointFromRolledBackWrong)

/-- 'zzlaws_internal_coord_b1.FnBranchesOfRoundTrip': WHATEVER THE INPUT: true; the input reads as it did. -/
def fnBranchesOfRoundTripSpec : ChangeSpec := { name := "fnBranchesOfRoundTrip", fn := fun _ => fun
  | [d] => { results := [.lit (.bool true)], args := [d] }
  | _ => none }
def fnBranchesOfRoundTripRow : OpenClaim := { program := "qxb6600005a", sum := "c7361ea1a4adf6f8a7055e7a035dec5e379187b0eea32fb8307c8ea3dc52d8e0", func := "example.com/concordat/concordat/zzlaws_internal_coord_b1.FnBranchesOfRoundTrip", spec := "fnBranchesOfRoundTrip", apart := false }
def FnBranchesOfRoundTripSaid : Prop := fnBranchesOfRoundTripRow.holds Try.pinned (OpenSpec.ofChange fnBranchesOfRoundTripSpec)

/-- ITS FALSE NEIGHBOUR: 'it returns false'. Refute it at one input. -/
def fnBranchesOfRoundTripWrong : ChangeSpec := { name := "fnBranchesOfRoundTrip", fn := fun _ => fun
  | [d] => { results := [.lit (.bool false)], args := [d] }
  | _ => none }
def FnBranchesOfRoundTripWrongFalsely : Prop := fnBranchesOfRoundTripRow.holds Try.pinned (OpenSpec.ofChange fnBranchesOfRoundTripWrong)

/-- 'zzlaws_internal_coord_b1.FnBranchesOfConcat': WHATEVER THE INPUT: true; the input reads as it did. -/
def fnBranchesOfConcatSpec : ChangeSpec := { name := "fnBranchesOfConcat", fn := fun _ => fun
  | [d1, d2] => { results := [.lit (.bool true)], args := [d1, d2] }
  | _ => none }
def fnBranchesOfConcatRow : OpenClaim := { program := "qxb6600005a", sum := "c7361ea1a4adf6f8a7055e7a035dec5e379187b0eea32fb8307c8ea3dc52d8e0", func := "example.com/concordat/concordat/zzlaws_internal_coord_b1.FnBranchesOfConcat", spec := "fnBranchesOfConcat", apart := false }
def FnBranchesOfConcatSaid : Prop := fnBranchesOfConcatRow.holds Try.pinned (OpenSpec.ofChange fnBranchesOfConcatSpec)

/-- ITS FALSE NEIGHBOUR: 'it returns false'. Refute it at one input. -/
def fnBranchesOfConcatWrong : ChangeSpec := { name := "fnBranchesOfConcat", fn := fun _ => fun
  | [d1, d2] => { results := [.lit (.bool false)], args := [d1, d2] }
  | _ => none }
def FnBranchesOfConcatWrongFalsely : Prop := fnBranchesOfConcatRow.holds Try.pinned (OpenSpec.ofChange fnBranchesOfConcatWrong)

end Rows
end Go.Proofs.Qxb6600005a
