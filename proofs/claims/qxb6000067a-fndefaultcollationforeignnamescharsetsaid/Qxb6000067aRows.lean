/-
  No cell of these rows narrows 'for every input' (looked for: loops, veiled, ifaces, maps, wideKeys, modest, calm, conditions, laid).
  DERIVED. THE GIVEN ROWS OF THIS SEAT. 2 by the template 'for every input the law returns true; each argument reads behind the call as it read before'; 0 by the template 'total and deterministic' (their statements: Qxb6000067aTotals.lean).
  GIVEN WITH THE SEED: the statements are not yours to turn. If you find one false, say at which input.
  Laid BY PROGRAM, IN A SANDBOX (cutbox-rows.mjs): the forced cells as the released guide's own fill.sh prints them over the translation 581bbc73350df895… (all of the seat's roots in one cut). By AI agents, Wed Nov 11 2026. No macro, syntax, notation, axiom, sorry.
-/
import Derived.Test.Qxb6000067aChecked
import GoSem.Claim
import GoSem.ClaimJoined
import GoSem.ClaimMapViews
import Derived.JoinedTies
import Derived.KernelRfl
namespace Go.Proofs.Qxb6000067a
/- THE CELL 'sum', in the pinned program and in every row, IS THE sha256 OF THE DUMP (.gsa) THAT Qxb6000067aProg.lean LOADS. Nothing in Lean hashes anything: it is a label: what it is worth is what the hold of that sum in a sandbox is worth. -/
noncomputable def Try.pinned : Pinned := { name := "qxb6000067a", sum := "581bbc73350df8951fb463c70b5302af94be421bac497468fe4c487df0314b46", checked := Try.checked }
namespace Rows
def none {H : Type} : Left H := { results := [], args := [] }

/-- 'zzlaws_pkg_engine_b1.FnOutcomeStringDistinct': WHATEVER THE INPUT: true; the input reads as it did. -/
def fnOutcomeStringDistinctSpec : ChangeSpec := { name := "fnOutcomeStringDistinct", fn := fun _ => fun
  | [d1, d2] => { results := [.lit (.bool true)], args := [d1, d2] }
  | _ => none }
def fnOutcomeStringDistinctRow : OpenClaim := { program := "qxb6000067a", sum := "581bbc73350df8951fb463c70b5302af94be421bac497468fe4c487df0314b46", func := "example.com/gapwise/gapwise/zzlaws_pkg_engine_b1.FnOutcomeStringDistinct", spec := "fnOutcomeStringDistinct", apart := false }
def FnOutcomeStringDistinctSaid : Prop := fnOutcomeStringDistinctRow.holds Try.pinned (OpenSpec.ofChange fnOutcomeStringDistinctSpec)

/-- ITS FALSE NEIGHBOUR: 'it returns false'. Refute it at one input. -/
def fnOutcomeStringDistinctWrong : ChangeSpec := { name := "fnOutcomeStringDistinct", fn := fun _ => fun
  | [d1, d2] => { results := [.lit (.bool false)], args := [d1, d2] }
  | _ => none }
def FnOutcomeStringDistinctWrongFalsely : Prop := fnOutcomeStringDistinctRow.holds Try.pinned (OpenSpec.ofChange fnOutcomeStringDistinctWrong)

/-- 'zzlaws_pkg_engine_b1.FnDefaultCollationForeignNamesCharset': WHATEVER THE INPUT: true; the input reads as it did. -/
def fnDefaultCollationForeignNamesCharsetSpec : ChangeSpec := { name := "fnDefaultCollationForeignNamesCharset", fn := fun _ => fun
  | [d1, d2, d3] => { results := [.lit (.bool true)], args := [d1, d2, d3] }
  | _ => none }
def fnDefaultCollationForeignNamesCharsetRow : OpenClaim := { program := "qxb6000067a", sum := "581bbc73350df8951fb463c70b5302af94be421bac497468fe4c487df0314b46", func := "example.com/gapwise/gapwise/zzlaws_pkg_engine_b1.FnDefaultCollationForeignNamesCharset", spec := "fnDefaultCollationForeignNamesCharset", apart := false }
def FnDefaultCollationForeignNamesCharsetSaid : Prop := fnDefaultCollationForeignNamesCharsetRow.holds Try.pinned (OpenSpec.ofChange fnDefaultCollationForeignNamesCharsetSpec)

/-- ITS FALSE NEIGHBOUR: 'it returns false'. Refute it at one input. -/
def fnDefaultCollationForeignNamesCharsetWrong : ChangeSpec := { name := "fnDefaultCollationForeignNamesCharset", fn := fun _ => fun
  | [d1, d2, d3] => { results := [.lit (.bool false)], args := [d1, d2, d3] }
  | _ => none }
def FnDefaultCollationForeignNamesCharsetWrongFalsely : Prop := fnDefaultCollationForeignNamesCharsetRow.holds Try.pinned (OpenSpec.ofChange fnDefaultCollationForeignNamesCharsetWrong)

end Rows
end Go.Proofs.Qxb6000067a
