/-
  The proof of the given statement 'Rows.FnOutcomeStringDistinctSaid': the frame is the kit's shell for this function; the walk is by hand.
-/
import Derived.Test.Qxb6000067aRows
import Derived.WalkKit
import Derived.ProofKit
import Derived.OpenShut
import Derived.ShutString
namespace Go.Proofs.Qxb6000067a.fnOutcomeStringDistinct
open Go.ChangeShapes Go.WideShapes Go.ChangeAt Go.RowKit
open Go.ChangeMaps (open_string shut_string)
set_option linter.unusedVariables false      -- a walk need not use every 'w<i>' (that an integer argument fits its kind)

theorem own : ownKnob Try.prog.godebug = none := by kernel_rfl

/-! ### THE PLAIN FUNCTION: what an outcome prints -/
def outS (o : Int) : ByteArray :=
  if o = 1 then ⟨#[111, 107]⟩ else if o = 2 then ⟨#[119, 97, 105, 116, 115]⟩ else if o = 3 then ⟨#[114, 101, 115, 117, 109, 101, 100]⟩
  else if o = 4 then ⟨#[100, 101, 97, 100, 108, 111, 99, 107]⟩ else if o = 5 then ⟨#[101, 114, 114, 111, 114, 32, 100, 117, 112, 108, 105, 99, 97, 116, 101, 45, 107, 101, 121]⟩ else ⟨#[117, 110, 107, 110, 111, 119, 110]⟩

/-- the same as a list of bytes -/
def outL (o : Int) : List UInt8 :=
  if o = 1 then [111, 107] else if o = 2 then [119, 97, 105, 116, 115] else if o = 3 then [114, 101, 115, 117, 109, 101, 100]
  else if o = 4 then [100, 101, 97, 100, 108, 111, 99, 107] else if o = 5 then [101, 114, 114, 111, 114, 32, 100, 117, 112, 108, 105, 99, 97, 116, 101, 45, 107, 101, 121] else [117, 110, 107, 110, 111, 119, 110]

theorem outS_toList (o : Int) : (outS o).toList = outL o := by
  unfold outS outL
  by_cases h1 : o = 1
  · rw [if_pos h1, if_pos h1]; decide +kernel
  rw [if_neg h1, if_neg h1]
  by_cases h2 : o = 2
  · rw [if_pos h2, if_pos h2]; decide +kernel
  rw [if_neg h2, if_neg h2]
  by_cases h3 : o = 3
  · rw [if_pos h3, if_pos h3]; decide +kernel
  rw [if_neg h3, if_neg h3]
  by_cases h4 : o = 4
  · rw [if_pos h4, if_pos h4]; decide +kernel
  rw [if_neg h4, if_neg h4]
  by_cases h5 : o = 5
  · rw [if_pos h5, if_pos h5]; decide +kernel
  rw [if_neg h5, if_neg h5]; decide +kernel

/-! ### THE PLAIN LAW: two different outcomes that print one text both print 'unknown' -/
theorem outL_cases (o : Int) : (o = 1 ∧ outL o = [111, 107]) ∨ (o = 2 ∧ outL o = [119, 97, 105, 116, 115]) ∨ (o = 3 ∧ outL o = [114, 101, 115, 117, 109, 101, 100])
    ∨ (o = 4 ∧ outL o = [100, 101, 97, 100, 108, 111, 99, 107]) ∨ (o = 5 ∧ outL o = [101, 114, 114, 111, 114, 32, 100, 117, 112, 108, 105, 99, 97, 116, 101, 45, 107, 101, 121])
    ∨ outL o = [117, 110, 107, 110, 111, 119, 110] := by
  by_cases h1 : o = 1
  · subst h1; exact .inl ⟨rfl, rfl⟩
  by_cases h2 : o = 2
  · subst h2; exact .inr (.inl ⟨rfl, rfl⟩)
  by_cases h3 : o = 3
  · subst h3; exact .inr (.inr (.inl ⟨rfl, rfl⟩))
  by_cases h4 : o = 4
  · subst h4; exact .inr (.inr (.inr (.inl ⟨rfl, rfl⟩)))
  by_cases h5 : o = 5
  · subst h5; exact .inr (.inr (.inr (.inr (.inl ⟨rfl, rfl⟩))))
  exact .inr (.inr (.inr (.inr (.inr (by simp [outL, h1, h2, h3, h4, h5])))))

theorem outL_distinct (a b : Int) (hab : ¬ a = b) (he : outL a = outL b) : outL a = [117, 110, 107, 110, 111, 119, 110] ∧ outL b = [117, 110, 107, 110, 111, 119, 110] := by
  rcases outL_cases a with ⟨ea, ha⟩ | ⟨ea, ha⟩ | ⟨ea, ha⟩ | ⟨ea, ha⟩ | ⟨ea, ha⟩ | ha <;>
    rcases outL_cases b with ⟨eb, hb⟩ | ⟨eb, hb⟩ | ⟨eb, hb⟩ | ⟨eb, hb⟩ | ⟨eb, hb⟩ | hb <;>
    first
    | exact ⟨ha, hb⟩
    | exact absurd (ea.trans eb.symm) hab
    | (rw [ha, hb] at he; exact absurd he (by decide))

theorem str_any (o : Int) (w : World) : Calls Try.prog 5 #[.int .i64 o] w fun e w' => e = .returned (.string (outS o)) ∧ w' = w := by
  by_cases h1 : o = 1
  · subst h1
    go_enter Try.func5, Try.ntmps5
    go_wp2
    go_ret
    exact ⟨rfl, rfl⟩
  by_cases h2 : o = 2
  · subst h2
    go_enter Try.func5, Try.ntmps5
    go_wp2
    go_ret
    exact ⟨rfl, rfl⟩
  by_cases h3 : o = 3
  · subst h3
    go_enter Try.func5, Try.ntmps5
    go_wp2
    go_ret
    exact ⟨rfl, rfl⟩
  by_cases h4 : o = 4
  · subst h4
    go_enter Try.func5, Try.ntmps5
    go_wp2
    go_ret
    exact ⟨rfl, rfl⟩
  by_cases h5 : o = 5
  · subst h5
    go_enter Try.func5, Try.ntmps5
    go_wp2
    go_ret
    exact ⟨rfl, rfl⟩
  · have e : outS o = ⟨#[117, 110, 107, 110, 111, 119, 110]⟩ := by simp [outS, h1, h2, h3, h4, h5]
    have g1 : (o == 1) = false := by simp [h1]
    have g2 : (o == 2) = false := by simp [h2]
    have g3 : (o == 3) = false := by simp [h3]
    have g4 : (o == 4) = false := by simp [h4]
    have g5 : (o == 5) = false := by simp [h5]
    rw [e]
    clear e h1 h2 h3 h4 h5
    go_enter Try.func5, Try.ntmps5
    go_wp2
    go_ret
    exact ⟨rfl, rfl⟩

theorem ret_bool {a b : Bool} (h : a = b) : Ending.returned (.bool a) = .returned (.bool b) := by rw [h]

/-! ### STEP 1: THE WALK -/
theorem walk (a0 : Int) (a1 : Int) (w0 : (Lit.int .i64 a0).wf = true) (w1 : (Lit.int .i64 a1).wf = true) (w : World) :
    Calls Try.prog 3 #[.int .i64 a0, .int .i64 a1] w fun e w' => e = .returned (.bool true) ∧ Grown w w' := by
  by_cases h : a0 = a1
  · subst h
    go_enter Try.func3, Try.ntmps3
    go_wp2
    go_ret
    exact ⟨rfl, by repeat (first | exact Grown.refl _ | apply Grown.drew | apply Grown.alloc)⟩
  · have h' : (a0 == a1) = false := by simp [h]
    have HL : Hid (outL a0 = outL a1 → outL a0 = [117, 110, 107, 110, 111, 119, 110] ∧ outL a1 = [117, 110, 107, 110, 111, 119, 110]) := outL_distinct a0 a1 h
    rw [← outS_toList a0, ← outS_toList a1] at HL
    go_enter Try.func3, Try.ntmps3
    go_wp2_with fail
    refine (str_any a0 _).mono ?_
    rintro e w' ⟨rfl, rfl⟩
    generalize outS a0 = sa at *
    go_wp2_with fail
    refine (str_any a1 _).mono ?_
    rintro e w' ⟨rfl, rfl⟩
    generalize outS a1 = sb at *
    go_wp2_with fail
    · go_ret
      exact ⟨rfl, Grown.refl _⟩
    · rename_i ha hb
      have hn : ¬ sa.toList = sb.toList := fun e => by
        have := (HL.out e).2; rw [this] at hb; simp at hb
      rw [ha] at hn
      go_ret
      exact ⟨ret_bool (by simp [hn]), Grown.refl _⟩
    · rename_i ha
      have hn : ¬ sa.toList = sb.toList := fun e => ha (HL.out e).1
      go_ret
      exact ⟨ret_bool (by simp [hn]), Grown.refl _⟩

/-! ### THE ROW's STEP: WRITTEN OUT: LEAVE IT -/
set_option maxRecDepth 100000 in
theorem lifted (os : Os) (started : os.Started) (H : Type) (enc : TypeId × Value → H) :
    ReturnsInHanded {} Try.checked os 3 .any (Rows.fnOutcomeStringDistinctSpec.pre6 enc Try.prog Try.f3 Rows.fnOutcomeStringDistinctRow.domain false) (Rows.fnOutcomeStringDistinctSpec.post enc Try.prog Try.f3 false true false false) := by
  refine returnsInHanded_of_change (C := Try.checked) own started (by kernel_rfl) Try.func3
    (ChangeSpec.witness6 (enc := enc) (C := Try.checked) false ⟨#[], #[.int .i64 0, .int .i64 0], []⟩ 8 (by kernel_rfl) (by kernel_rfl) (by kernel_rfl) (by kernel_rfl)) ?_
  intro W base args ds gs before hval0 hW hcnd _
  have hval : ∀ (j : Nat) t v, Try.f3.params[j]? = some t → args[j]? = some v → Value.okWide Try.prog W .any base t v := hval0
  have hW' := hW
  obtain ⟨p, q, hA0, hV, rfl, hfz, hnd⟩ := hW
  have hA : DataW.TrodAll enc Try.prog W 0 (fun _ => true) true Try.f3.params.toList args.toList ds p := hA0
  rw [Try.params3] at hA hval
  obtain ⟨v0, vs0, d0, ds0, p0, q0, hargs, rfl, rfl, h0, r0⟩ := trodAll_cons hA
  obtain ⟨v1, vs1, d1, ds1, p1, q1, rfl, rfl, rfl, h1, r1⟩ := trodAll_cons r0
  obtain ⟨rfl, rfl, rfl⟩ := trodAll_nil r1
  obtain rfl : args = #[v0, v1] := by cases args; simp_all
  obtain ⟨rfl, rfl⟩ := trodVars_none hV
  obtain ⟨a0, rfl, rfl, rfl, w0⟩ := open_int Try.underlying3 (hval 0 3 v0 rfl rfl) h0
  obtain ⟨a1, rfl, rfl, rfl, w1⟩ := open_int Try.underlying3 (hval 1 3 v1 rfl rfl) h1
  clear hA0 hval0
  simp only [List.append_nil] at hW'
  refine (walk a0 a1 w0 w1 W).mono fun e W' ⟨he, hg⟩ => ?_
  subst he
  exact ⟨_, rfl, post_of_same (pa := []) (pv := []) hW' (fun _ _ _ => (trodAll_cons_mk (shut_bool Try.underlying4 _) trodAll_mk0)) (fun sp _ => (trodAll_cons_mk (shut_int Try.underlying3 w0) (trodAll_cons_mk (shut_int Try.underlying3 w1) trodAll_mk0))) (fun _ _ => rfl) rfl
    (hg.frame _) hg.2.1 (ok_one (by kernel_rfl) rfl (okWide_bool_mk Try.underlying4 _))⟩

theorem over : Rows.fnOutcomeStringDistinctRow.holds Try.pinned (OpenSpec.ofChange Rows.fnOutcomeStringDistinctSpec) :=
  OpenClaim.holds_of_wide 3 Try.f3 rfl rfl rfl rfl rfl rfl rfl ⟨rfl, rfl, rfl, rfl, rfl⟩ rfl rfl rfl rfl rfl (by kernel_rfl) Try.func3 (by kernel_rfl)
    (of_decide_eq_true (by kernel_rfl)) (by unfold Func.isWrapper; first | (rw [if_pos (by decide +kernel)]; kernel_rfl) | (rw [if_neg (by decide +kernel)]; exact ⟨rfl, rfl⟩))
    (fun os started H enc _ => lifted os started H enc)

/-- ████ THE STATEMENT ████ -/
theorem proved : Rows.FnOutcomeStringDistinctSaid :=
  over
end Go.Proofs.Qxb6000067a.fnOutcomeStringDistinct
