/-
  The proof of the given statement 'Rows.FnNumberPointAgreesWithIntegerSaid': the frame is the kit's shell for this function; the walk is by hand.
-/
import Derived.Test.Qxb6001184aRows
import Derived.WalkKit
import Derived.ProofKit
import Derived.OpenShut
import Derived.ShutString
import Derived.Test.Qxb6001184aPointWalk
import Derived.ChangeOld
import Derived.Below
namespace Go.Proofs.Qxb6001184a.fnNumberPointAgreesWithInteger
open Go.ChangeShapes Go.WideShapes Go.ChangeAt Go.RowKit
open Go.ChangeMaps (open_string shut_string)
set_option linter.unusedVariables false

theorem own : ownKnob Try.prog.godebug = none := by kernel_rfl
theorem laidOut : laidOutB Try.prog = true := by kernel_rfl

/-- WHAT THE WALK IS TOLD OF A SLICE OF INTEGERS THAT CAME IN: it is nil; or it leads to a row of 'cap' cells, the numbers 'zs' (the first 'len' are its elements, the rest its spare room), each fitting its kind. -/
def IsRow (k : IntKind) (w : World) (a : Option Addr) (len cap : Nat) (zs : List Int) : Prop :=
  (a = none ∧ len = 0 ∧ cap = 0 ∧ zs = []) ∨
  ∃ x, a = some x ∧ len ≤ cap ∧ cap ≤ maxLen ∧ zs.length = cap ∧ (∀ i, i < zs.length → w.cell? (x.add i) = some (.int k (zs.getD i 0))) ∧ ∀ n ∈ zs, (Lit.int k n).wf = true

/-! ### STEP 1: THE WALK -/
theorem row_of {K : IntKind} {w : World} {a : Option Addr} {len cap : Nat} {zs : List Int} (h : IsRow K w a len cap zs) : RowAt K w a len (fun j => zs.getD j 0) := by
  rcases h with ⟨_, rfl, _, _⟩ | ⟨x, rfl, hl, _, hz, hc, _⟩
  · exact .inl rfl
  · rcases Nat.eq_zero_or_pos len with h0 | h0
    · exact .inl h0
    · obtain ⟨b, off, spot⟩ := x
      have hspot : spot = none := by simpa [Addr.add] using World.cell?_spot (hc 0 (by omega))
      subst hspot
      have hc' : ∀ j, j < zs.length → w.cell? ⟨b, off + j, none⟩ = some (.int K (zs.getD j 0)) := fun j hj => by rw [← add_plain]; exact hc j hj
      have hb : b < w.heap.size := by
        have h1 := hc' 0 (by omega)
        rcases Nat.lt_or_ge b w.heap.size with h | h
        · exact h
        · simp [World.cell?, Array.getElem?_eq_none h] at h1
      exact .inr ⟨b, off, rfl, hb, fun j hj => hc' j (by omega)⟩

theorem len_of {K : IntKind} {w : World} {a : Option Addr} {len cap : Nat} {zs : List Int} (h : IsRow K w a len cap zs) : len ≤ maxLen ∧ (a = none → len = 0) := by
  rcases h with ⟨_, rfl, _, _⟩ | ⟨x, rfl, hl, hm, _⟩
  · exact ⟨Nat.zero_le _, fun _ => rfl⟩
  · exact ⟨Nat.le_trans hl hm, fun h => absurd h (by simp)⟩

set_option maxHeartbeats 400000 in
set_option maxRecDepth 100000 in
theorem walk (a0 : Option Addr) (len0 cap0 : Nat) (z0 : List Int) (a1 : Option Addr) (len1 cap1 : Nat) (z1 : List Int) (a2 : Int) (w : World) (w0 : IsRow .u8 w a0 len0 cap0 z0) (w1 : IsRow .u8 w a1 len1 cap1 z1) (w2 : (Lit.int .u8 a2).wf = true) :
    Calls Try.prog 5 #[.slice a0 len0 cap0, .slice a1 len1 cap1, .int .u8 a2] w fun e w' => e = .returned (.bool true) ∧ Below w.heap.size w w' := by
  have h2 := bounds_u8 w2
  have H0 : Hid (RowAt .u8 w a0 len0 (fun j => z0.getD j 0)) := row_of w0
  have H1 : Hid (RowAt .u8 w a1 len1 (fun j => z1.getD j 0)) := row_of w1
  obtain ⟨hl0, hn0⟩ := len_of w0
  obtain ⟨hl1, hn1⟩ := len_of w1
  have HN1 : Hid (a1 = none → len1 = 0) := hn1
  clear hn0 hn1 w0 w1
  generalize (fun j => z0.getD j 0) = c0 at *
  generalize (fun j => z1.getD j 0) = c1 at *
  by_cases hbig : len0 + len1 ≤ 1048576
  · by_cases h17 : len0 + len1 ≤ 131072
    · have hle : decide (len0 + len1 ≤ 1048576) = true := decide_eq_true hbig
      by_cases hz : len0 = 0
      · have hl : ((len0 : Int) == 0) = true := by simp [hz]
        clear hz
        go_enter Try.func5, Try.ntmps5
        go_wp2_with fail
        refine (zz11 a0 len0 cap0 a1 len1 cap1 a2 _ hl0 hl1).mono ?_
        rintro e w1 ⟨rfl, rfl⟩
        go_wp2
        go_ret
        exact ⟨rfl, Below.refl _ _⟩
      · cases hd : digB c0 len0 with
        | false =>
          have hl : ((len0 : Int) == 0) = false := by simp [hz]
          go_enter Try.func5, Try.ntmps5
          go_wp2_with fail
          refine (zz11 a0 len0 cap0 a1 len1 cap1 a2 _ hl0 hl1).mono ?_
          rintro e w1 ⟨rfl, rfl⟩
          go_wp2_with fail
          refine (numIsDigits_calls a0 len0 cap0 c0 _ H0.out (by omega)).mono ?_
          rintro e w1 ⟨rfl, rfl⟩
          go_wp2
          go_ret
          exact ⟨rfl, Below.refl _ _⟩
        | true =>
          cases hf : digB c1 len1 with
          | false =>
            have hl : ((len0 : Int) == 0) = false := by simp [hz]
            go_enter Try.func5, Try.ntmps5
            go_wp2_with fail
            refine (zz11 a0 len0 cap0 a1 len1 cap1 a2 _ hl0 hl1).mono ?_
            rintro e w1 ⟨rfl, rfl⟩
            go_wp2_with fail
            refine (numIsDigits_calls a0 len0 cap0 c0 _ H0.out (by omega)).mono ?_
            rintro e w1 ⟨rfl, rfl⟩
            go_wp2_with fail
            refine (numIsDigits_calls a1 len1 cap1 c1 _ H1.out (by omega)).mono ?_
            rintro e w1 ⟨rfl, rfl⟩
            go_wp2
            go_ret
            exact ⟨rfl, Below.refl _ _⟩
          | true => exact walk_in a0 len0 cap0 a1 len1 cap1 c0 c1 a2 w H0.out H1.out HN1.out (by omega) (by omega) h17 (by omega) hd hf
    · have hle : decide (len0 + len1 ≤ 1048576) = true := decide_eq_true hbig
      go_enter Try.func5, Try.ntmps5
      go_wp2_with fail
      refine (zz11 a0 len0 cap0 a1 len1 cap1 a2 _ hl0 hl1).mono ?_
      rintro e w1 ⟨rfl, rfl⟩
      go_wp2
      go_ret
      exact ⟨rfl, Below.refl _ _⟩
  · have hle : decide (len0 + len1 ≤ 1048576) = false := decide_eq_false hbig
    go_enter Try.func5, Try.ntmps5
    go_wp2_with fail
    refine (zz11 a0 len0 cap0 a1 len1 cap1 a2 _ hl0 hl1).mono ?_
    rintro e w1 ⟨rfl, rfl⟩
    go_wp2
    go_ret
    exact ⟨rfl, Below.refl _ _⟩

/-! ### THE ROW's STEP: WRITTEN OUT: LEAVE IT -/
set_option maxRecDepth 100000 in
theorem lifted (os : Os) (started : os.Started) (H : Type) (enc : TypeId × Value → H) :
    ReturnsInHanded {} Try.checked os 5 .any (Rows.fnNumberPointAgreesWithIntegerSpec.pre6 enc Try.prog Try.f5 Rows.fnNumberPointAgreesWithIntegerRow.domain false) (Rows.fnNumberPointAgreesWithIntegerSpec.post enc Try.prog Try.f5 false true false false) := by
  refine returnsInHanded_of_change (C := Try.checked) own started (by kernel_rfl) Try.func5
    (ChangeSpec.witness6 (enc := enc) (C := Try.checked) false ⟨#[], #[.slice none 0 0, .slice none 0 0, .int .u8 0], []⟩ 8 (by kernel_rfl) (by kernel_rfl) (by kernel_rfl) (by kernel_rfl)) ?_
  intro W base args ds gs before hval0 hW hcnd _
  have hval : ∀ (j : Nat) t v, Try.f5.params[j]? = some t → args[j]? = some v → Value.okWide Try.prog W .any base t v := hval0
  have hW' := hW
  obtain ⟨p, q, hA0, hV, rfl, hfz, hnd⟩ := hW
  have hA : DataW.TrodAll enc Try.prog W 0 (fun _ => true) true Try.f5.params.toList args.toList ds p := hA0
  rw [Try.params5] at hA hval
  obtain ⟨v0, vs0, d0, ds0, p0, q0, hargs, rfl, rfl, h0, r0⟩ := trodAll_cons hA
  obtain ⟨v1, vs1, d1, ds1, p1, q1, rfl, rfl, rfl, h1, r1⟩ := trodAll_cons r0
  obtain ⟨v2, vs2, d2, ds2, p2, q2, rfl, rfl, rfl, h2, r2⟩ := trodAll_cons r1
  obtain ⟨rfl, rfl, rfl⟩ := trodAll_nil r2
  obtain rfl : args = #[v0, v1, v2] := by cases args; simp_all
  obtain ⟨rfl, rfl⟩ := trodVars_none hV
  obtain ⟨a0, len0, cap0, rfl⟩ := okWide_slice Try.underlying24 (hval 0 24 v0 rfl rfl)
  have k0 := h0
  have lt0 : ∀ x ∈ p0, x.block < W.heap.size := by obtain ⟨m, hm⟩ := k0; exact DataW.trod_lt m _ _ _ hm
  obtain ⟨z0, w0⟩ : ∃ zs, IsRow .u8 W a0 len0 cap0 zs := by
    obtain ⟨fuel, hf⟩ := h0
    rcases open_ints Try.underlying24 Try.underlying5 (by kernel_rfl) hf with ⟨hcs, _⟩ | ⟨x, l, c, zs, hcs, _, hl, hm, hz, _, hcell, hwz⟩
    · simp [Value.cells] at hcs
      obtain ⟨rfl, rfl, rfl⟩ := hcs
      exact ⟨[], .inl ⟨rfl, rfl, rfl, rfl⟩⟩
    · simp [Value.cells] at hcs
      obtain ⟨rfl, rfl, rfl⟩ := hcs
      exact ⟨zs, .inr ⟨_, rfl, hl, hm, by simpa using hz, hcell, hwz⟩⟩
  obtain ⟨a1, len1, cap1, rfl⟩ := okWide_slice Try.underlying24 (hval 1 24 v1 rfl rfl)
  have k1 := h1
  have lt1 : ∀ x ∈ p1, x.block < W.heap.size := by obtain ⟨m, hm⟩ := k1; exact DataW.trod_lt m _ _ _ hm
  obtain ⟨z1, w1⟩ : ∃ zs, IsRow .u8 W a1 len1 cap1 zs := by
    obtain ⟨fuel, hf⟩ := h1
    rcases open_ints Try.underlying24 Try.underlying5 (by kernel_rfl) hf with ⟨hcs, _⟩ | ⟨x, l, c, zs, hcs, _, hl, hm, hz, _, hcell, hwz⟩
    · simp [Value.cells] at hcs
      obtain ⟨rfl, rfl, rfl⟩ := hcs
      exact ⟨[], .inl ⟨rfl, rfl, rfl, rfl⟩⟩
    · simp [Value.cells] at hcs
      obtain ⟨rfl, rfl, rfl⟩ := hcs
      exact ⟨zs, .inr ⟨_, rfl, hl, hm, by simpa using hz, hcell, hwz⟩⟩
  obtain ⟨a2, rfl, rfl, rfl, w2⟩ := open_int Try.underlying5 (hval 2 5 v2 rfl rfl) h2
  clear hA0 hval0
  refine (walk a0 len0 cap0 z0 a1 len1 cap1 z1 a2 W w0 w1 w2).mono fun e W' ⟨he, bel⟩ => ?_
  subst he
  exact ⟨_, rfl, _, _, _, [], _, [], hW', trodAll_mk1 (shut_bool Try.underlying4 _), (trodAll_cons_mk (Below.trod laidOut (by kernel_rfl) (of_decide_eq_true (by kernel_rfl)) k0 bel lt0) (trodAll_cons_mk (Below.trod laidOut (by kernel_rfl) (of_decide_eq_true (by kernel_rfl)) k1 bel lt1) (trodAll_cons_mk (shut_int Try.underlying5 w2) trodAll_mk0))), rfl, bel.frame _, fun h => by cases h⟩

theorem over : Rows.fnNumberPointAgreesWithIntegerRow.holds Try.pinned (OpenSpec.ofChange Rows.fnNumberPointAgreesWithIntegerSpec) :=
  OpenClaim.holds_of_wide 5 Try.f5 rfl rfl rfl rfl rfl rfl rfl ⟨rfl, rfl, rfl, rfl, rfl⟩ rfl rfl rfl rfl rfl (by kernel_rfl) Try.func5 (by kernel_rfl)
    (of_decide_eq_true (by kernel_rfl)) (by unfold Func.isWrapper; first | (rw [if_pos (by decide +kernel)]; kernel_rfl) | (rw [if_neg (by decide +kernel)]; exact ⟨rfl, rfl⟩))
    (fun os started H enc _ => lifted os started H enc)

/-- ████ THE STATEMENT ████ -/
theorem proved : Rows.FnNumberPointAgreesWithIntegerSaid := over
end Go.Proofs.Qxb6001184a.fnNumberPointAgreesWithInteger
