/-
  The proof of the given statement 'Rows.FnDefaultCollationForeignNamesCharsetSaid': the frame is the kit's shell for this function; the walk is by hand.
-/
import Derived.Test.Qxb6000067aRows
import Derived.WalkKit
import Derived.ProofKit
import Derived.OpenShut
import Derived.ShutString
namespace Go.Proofs.Qxb6000067a.fnDefaultCollationForeignNamesCharset
open Go.ChangeShapes Go.WideShapes Go.ChangeAt Go.RowKit
open Go.ChangeMaps (open_string shut_string)
set_option linter.unusedVariables false      -- a walk need not use every 'w<i>' (that an integer argument fits its kind)

theorem own : ownKnob Try.prog.godebug = none := by kernel_rfl


/-! ### THE PLAIN LAW: the fixed head and what follows it, cut again -/
theorem cut_head (a : ByteArray) : (((⟨#[116, 104, 101, 32, 100, 101, 102, 97, 117, 108, 116, 32, 111, 102, 32, 99, 104, 97, 114, 97, 99, 116, 101, 114, 32, 115, 101, 116, 32]⟩ : ByteArray) ++ a).extract 0 29).toList = [116, 104, 101, 32, 100, 101, 102, 97, 117, 108, 116, 32, 111, 102, 32, 99, 104, 97, 114, 97, 99, 116, 101, 114, 32, 115, 101, 116, 32] := by
  rw [ByteArray.extract_append_eq_left (by decide)]; decide +kernel
theorem cut_tail (a : ByteArray) : (((⟨#[116, 104, 101, 32, 100, 101, 102, 97, 117, 108, 116, 32, 111, 102, 32, 99, 104, 97, 114, 97, 99, 116, 101, 114, 32, 115, 101, 116, 32]⟩ : ByteArray) ++ a).extract 29 (29 + a.size)).toList = a.toList := by
  have h29 : (29 : Nat) = (⟨#[116, 104, 101, 32, 100, 101, 102, 97, 117, 108, 116, 32, 111, 102, 32, 99, 104, 97, 114, 97, 99, 116, 101, 114, 32, 115, 101, 116, 32]⟩ : ByteArray).size := by decide
  rw [ByteArray.extract_append_eq_right h29 (by rw [← h29])]
theorem ret_bool {a b : Bool} (h : a = b) : Ending.returned (.bool a) = .returned (.bool b) := by rw [h]

/-! ### STEP 1: THE WALK -/
set_option maxHeartbeats 400000 in
theorem walk (a0 : Int) (a1 : Int) (a2 : ByteArray) (w0 : (Lit.int .i64 a0).wf = true) (w1 : (Lit.int .i64 a1).wf = true) (w2 : a2.size ≤ maxLen) (w : World) :
    Calls Try.prog 4 #[.int .i64 a0, .int .i64 a1, .string a2] w fun e w' => e = .returned (.bool true) ∧ Grown w w' := by
  unfold maxLen at w2
  by_cases hsz : (1048576 : Int) < a2.size
  · go_enter Try.func4, Try.ntmps4
    go_wp2
    go_ret
    exact ⟨rfl, Grown.refl _⟩
  · go_enter Try.func4, Try.ntmps4
    go_wp2
    · go_ret
      exact ⟨rfl, Grown.refl _⟩
    · go_ret
      exact ⟨rfl, Grown.refl _⟩
    · rename_i hbad
      rw [cut_head] at hbad
      simp at hbad
    · go_ret
      exact ⟨ret_bool (by rw [cut_tail]; simp), Grown.refl _⟩

/-! ### THE ROW's STEP: WRITTEN OUT: LEAVE IT -/
set_option maxRecDepth 100000 in
theorem lifted (os : Os) (started : os.Started) (H : Type) (enc : TypeId × Value → H) :
    ReturnsInHanded {} Try.checked os 4 .any (Rows.fnDefaultCollationForeignNamesCharsetSpec.pre6 enc Try.prog Try.f4 Rows.fnDefaultCollationForeignNamesCharsetRow.domain false) (Rows.fnDefaultCollationForeignNamesCharsetSpec.post enc Try.prog Try.f4 false true false false) := by
  refine returnsInHanded_of_change (C := Try.checked) own started (by kernel_rfl) Try.func4
    (ChangeSpec.witness6 (enc := enc) (C := Try.checked) false ⟨#[], #[.int .i64 0, .int .i64 0, .string ByteArray.empty], []⟩ 8 (by kernel_rfl) (by kernel_rfl) (by kernel_rfl) (by kernel_rfl)) ?_
  intro W base args ds gs before hval0 hW hcnd _
  have hval : ∀ (j : Nat) t v, Try.f4.params[j]? = some t → args[j]? = some v → Value.okWide Try.prog W .any base t v := hval0
  have hW' := hW
  obtain ⟨p, q, hA0, hV, rfl, hfz, hnd⟩ := hW
  have hA : DataW.TrodAll enc Try.prog W 0 (fun _ => true) true Try.f4.params.toList args.toList ds p := hA0
  rw [Try.params4] at hA hval
  obtain ⟨v0, vs0, d0, ds0, p0, q0, hargs, rfl, rfl, h0, r0⟩ := trodAll_cons hA
  obtain ⟨v1, vs1, d1, ds1, p1, q1, rfl, rfl, rfl, h1, r1⟩ := trodAll_cons r0
  obtain ⟨v2, vs2, d2, ds2, p2, q2, rfl, rfl, rfl, h2, r2⟩ := trodAll_cons r1
  obtain ⟨rfl, rfl, rfl⟩ := trodAll_nil r2
  obtain rfl : args = #[v0, v1, v2] := by cases args; simp_all
  obtain ⟨rfl, rfl⟩ := trodVars_none hV
  obtain ⟨a0, rfl, rfl, rfl, w0⟩ := open_int Try.underlying3 (hval 0 3 v0 rfl rfl) h0
  obtain ⟨a1, rfl, rfl, rfl, w1⟩ := open_int Try.underlying3 (hval 1 3 v1 rfl rfl) h1
  obtain ⟨a2, rfl, rfl, rfl, w2⟩ := open_string Try.underlying9 (hval 2 9 v2 rfl rfl) h2
  clear hA0 hval0
  simp only [List.append_nil] at hW'
  refine (walk a0 a1 a2 w0 w1 w2 W).mono fun e W' ⟨he, hg⟩ => ?_
  subst he
  exact ⟨_, rfl, post_of_same (pa := []) (pv := []) hW' (fun _ _ _ => (trodAll_cons_mk (shut_bool Try.underlying4 _) trodAll_mk0)) (fun sp _ => (trodAll_cons_mk (shut_int Try.underlying3 w0) (trodAll_cons_mk (shut_int Try.underlying3 w1) (trodAll_cons_mk (shut_string Try.underlying9 w2) trodAll_mk0)))) (fun _ _ => rfl) rfl
    (hg.frame _) hg.2.1 (ok_one (by kernel_rfl) rfl (okWide_bool_mk Try.underlying4 _))⟩

theorem over : Rows.fnDefaultCollationForeignNamesCharsetRow.holds Try.pinned (OpenSpec.ofChange Rows.fnDefaultCollationForeignNamesCharsetSpec) :=
  OpenClaim.holds_of_wide 4 Try.f4 rfl rfl rfl rfl rfl rfl rfl ⟨rfl, rfl, rfl, rfl, rfl⟩ rfl rfl rfl rfl rfl (by kernel_rfl) Try.func4 (by kernel_rfl)
    (of_decide_eq_true (by kernel_rfl)) (by unfold Func.isWrapper; first | (rw [if_pos (by decide +kernel)]; kernel_rfl) | (rw [if_neg (by decide +kernel)]; exact ⟨rfl, rfl⟩))
    (fun os started H enc _ => lifted os started H enc)

/-- ████ THE STATEMENT ████ -/
theorem proved : Rows.FnDefaultCollationForeignNamesCharsetSaid :=
  over
end Go.Proofs.Qxb6000067a.fnDefaultCollationForeignNamesCharset
