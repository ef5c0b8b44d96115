/-
  The proof of the given statement 'Rows.FnReadDictDecodesScriptSaid': the frame is the kit's shell for this function; the walk is by hand.
-/
import Derived.Test.Qxb6001184aRows
import Derived.WalkKit
import Derived.ProofKit
import Derived.OpenShut
import Derived.ShutString
import Derived.Test.Qxb6001184aDictWalk
import Derived.ChangeOld
import Derived.Below
namespace Go.Proofs.Qxb6001184a.fnReadDictDecodesScript
open Go.ChangeShapes Go.WideShapes Go.ChangeAt Go.RowKit
open Go.ChangeMaps (open_string shut_string)
set_option linter.unusedVariables false

theorem own : ownKnob Try.prog.godebug = none := by kernel_rfl
theorem laidOut : laidOutB Try.prog = true := by kernel_rfl

/-- WHAT THE WALK IS TOLD OF A SLICE OF INTEGERS THAT CAME IN: it is nil; or it leads to a row of 'cap' cells, the numbers 'zs' (the first 'len' are its elements, the rest its spare room), each fitting its kind. -/
def IsRow (k : IntKind) (w : World) (a : Option Addr) (len cap : Nat) (zs : List Int) : Prop :=
  (a = none ∧ len = 0 ∧ cap = 0 ∧ zs = []) ∨
  ∃ x, a = some x ∧ len ≤ cap ∧ cap ≤ maxLen ∧ zs.length = cap ∧ (∀ i, i < zs.length → w.cell? (x.add i) = some (.int k (zs.getD i 0))) ∧ ∀ n ∈ zs, (Lit.int k n).wf = true

/-! ### STEP 1: THE WALK -/
theorem row_of {K : IntKind} {w : World} {a : Option Addr} {len cap : Nat} {zs : List Int} (h : IsRow K w a len cap zs) : RowAt K w a len (fun j => zs.getD j 0) := by
  rcases h with ⟨_, rfl, _, _⟩ | ⟨x, rfl, hl, _, hz, hc, _⟩
  · exact .inl rfl
  · rcases Nat.eq_zero_or_pos len with h0 | h0
    · exact .inl h0
    · obtain ⟨b, off, spot⟩ := x
      have hspot : spot = none := by simpa [Addr.add] using World.cell?_spot (hc 0 (by omega))
      subst hspot
      have hc' : ∀ j, j < zs.length → w.cell? ⟨b, off + j, none⟩ = some (.int K (zs.getD j 0)) := fun j hj => by rw [← add_plain]; exact hc j hj
      have hb : b < w.heap.size := by
        have h1 := hc' 0 (by omega)
        rcases Nat.lt_or_ge b w.heap.size with h | h
        · exact h
        · simp [World.cell?, Array.getElem?_eq_none h] at h1
      exact .inr ⟨b, off, rfl, hb, fun j hj => hc' j (by omega)⟩

theorem len_of {K : IntKind} {w : World} {a : Option Addr} {len cap : Nat} {zs : List Int} (h : IsRow K w a len cap zs) : len ≤ maxLen ∧ (a = none → len = 0) := by
  rcases h with ⟨_, rfl, _, _⟩ | ⟨x, rfl, hl, hm, _⟩
  · exact ⟨Nat.zero_le _, fun _ => rfl⟩
  · exact ⟨Nat.le_trans hl hm, fun h => absurd h (by simp)⟩

theorem range_of {K : IntKind} {w : World} {a : Option Addr} {len cap : Nat} {zs : List Int} (h : IsRow K w a len cap zs) : ∀ j, j < len → (Lit.int K (zs.getD j 0)).wf = true := by
  rcases h with ⟨_, rfl, _, _⟩ | ⟨x, rfl, hl, hm, hz, _, hw⟩
  · intro j hj; omega
  · intro j hj
    have hjz : j < zs.length := by omega
    have : zs.getD j 0 = zs[j] := by simp [List.getD, hjz]
    rw [this]
    exact hw _ (List.getElem_mem hjz)

theorem wf_u16 {x : Int} (h : (Lit.int .u16 x).wf = true) : 0 ≤ x ∧ x ≤ 65535 := by
  simp [Lit.wf, IntKind.min, IntKind.max, IntKind.signed, IntKind.bits] at h
  omega
theorem wf_i32 {x : Int} (h : (Lit.int .i32 x).wf = true) : -2147483648 ≤ x ∧ x ≤ 2147483647 := by
  simp [Lit.wf, IntKind.min, IntKind.max, IntKind.signed, IntKind.bits] at h
  omega

set_option maxHeartbeats 400000 in
set_option maxRecDepth 100000 in
theorem walk (a0 : Option Addr) (len0 cap0 : Nat) (z0 : List Int) (a1 : Option Addr) (len1 cap1 : Nat) (z1 : List Int) (a2 : Option Addr) (len2 cap2 : Nat) (z2 : List Int) (w : World) (w0 : IsRow .u16 w a0 len0 cap0 z0) (w1 : IsRow .i32 w a1 len1 cap1 z1) (w2 : IsRow .u8 w a2 len2 cap2 z2) :
    Calls Try.prog 6 #[.slice a0 len0 cap0, .slice a1 len1 cap1, .slice a2 len2 cap2] w fun e w' => e = .returned (.bool true) ∧ Below w.heap.size w w' := by
  obtain ⟨hl0, hn0⟩ := len_of w0
  obtain ⟨hl1, hn1⟩ := len_of w1
  obtain ⟨hl2, hn2⟩ := len_of w2
  by_cases hA : len0 + len1 + len2 ≤ 1048576
  · by_cases hB : 2 * len0 + 4 * len1 + len2 ≤ 1048576
    · by_cases h0 : len0 ≤ 65536
      · by_cases h1 : len1 ≤ 65536
        · exact walk_in a0 len0 cap0 a1 len1 cap1 a2 len2 cap2 (fun j => z0.getD j 0) (fun j => z1.getD j 0) (fun j => z2.getD j 0) w (row_of w0) (row_of w1) (row_of w2) hn0 hn1 hn2
            (fun j hj => wf_u16 (range_of w0 j hj)) (fun j hj => wf_i32 (range_of w1 j hj)) (fun j hj => bounds_u8 (range_of w2 j hj)) hA hB h0 h1
        · have hle : decide (len0 + len1 + len2 ≤ 1048576) = true := decide_eq_true hA
          clear w0 w1 w2 hn0 hn1 hn2
          go_enter Try.func6, Try.ntmps6
          go_wp2_with fail
          refine (zz13 a0 len0 cap0 a1 len1 cap1 a2 len2 cap2 _ hl0 hl1 hl2).mono ?_
          rintro e w1 ⟨rfl, rfl⟩
          go_wp2
          go_ret
          exact ⟨rfl, Below.refl _ _⟩
      · have hle : decide (len0 + len1 + len2 ≤ 1048576) = true := decide_eq_true hA
        clear w0 w1 w2 hn0 hn1 hn2
        go_enter Try.func6, Try.ntmps6
        go_wp2_with fail
        refine (zz13 a0 len0 cap0 a1 len1 cap1 a2 len2 cap2 _ hl0 hl1 hl2).mono ?_
        rintro e w1 ⟨rfl, rfl⟩
        go_wp2
        go_ret
        exact ⟨rfl, Below.refl _ _⟩
    · have hle : decide (len0 + len1 + len2 ≤ 1048576) = true := decide_eq_true hA
      clear w0 w1 w2 hn0 hn1 hn2
      go_enter Try.func6, Try.ntmps6
      go_wp2_with fail
      refine (zz13 a0 len0 cap0 a1 len1 cap1 a2 len2 cap2 _ hl0 hl1 hl2).mono ?_
      rintro e w1 ⟨rfl, rfl⟩
      go_wp2
      go_ret
      exact ⟨rfl, Below.refl _ _⟩
  · have hle : decide (len0 + len1 + len2 ≤ 1048576) = false := decide_eq_false hA
    clear w0 w1 w2 hn0 hn1 hn2
    go_enter Try.func6, Try.ntmps6
    go_wp2_with fail
    refine (zz13 a0 len0 cap0 a1 len1 cap1 a2 len2 cap2 _ hl0 hl1 hl2).mono ?_
    rintro e w1 ⟨rfl, rfl⟩
    go_wp2
    go_ret
    exact ⟨rfl, Below.refl _ _⟩

/-! ### THE ROW's STEP: WRITTEN OUT: LEAVE IT -/
set_option maxRecDepth 100000 in
theorem lifted (os : Os) (started : os.Started) (H : Type) (enc : TypeId × Value → H) :
    ReturnsInHanded {} Try.checked os 6 .any (Rows.fnReadDictDecodesScriptSpec.pre6 enc Try.prog Try.f6 Rows.fnReadDictDecodesScriptRow.domain false) (Rows.fnReadDictDecodesScriptSpec.post enc Try.prog Try.f6 false true false false) := by
  refine returnsInHanded_of_change (C := Try.checked) own started (by kernel_rfl) Try.func6
    (ChangeSpec.witness6 (enc := enc) (C := Try.checked) false ⟨#[], #[.slice none 0 0, .slice none 0 0, .slice none 0 0], []⟩ 8 (by kernel_rfl) (by kernel_rfl) (by kernel_rfl) (by kernel_rfl)) ?_
  intro W base args ds gs before hval0 hW hcnd _
  have hval : ∀ (j : Nat) t v, Try.f6.params[j]? = some t → args[j]? = some v → Value.okWide Try.prog W .any base t v := hval0
  have hW' := hW
  obtain ⟨p, q, hA0, hV, rfl, hfz, hnd⟩ := hW
  have hA : DataW.TrodAll enc Try.prog W 0 (fun _ => true) true Try.f6.params.toList args.toList ds p := hA0
  rw [Try.params6] at hA hval
  obtain ⟨v0, vs0, d0, ds0, p0, q0, hargs, rfl, rfl, h0, r0⟩ := trodAll_cons hA
  obtain ⟨v1, vs1, d1, ds1, p1, q1, rfl, rfl, rfl, h1, r1⟩ := trodAll_cons r0
  obtain ⟨v2, vs2, d2, ds2, p2, q2, rfl, rfl, rfl, h2, r2⟩ := trodAll_cons r1
  obtain ⟨rfl, rfl, rfl⟩ := trodAll_nil r2
  obtain rfl : args = #[v0, v1, v2] := by cases args; simp_all
  obtain ⟨rfl, rfl⟩ := trodVars_none hV
  obtain ⟨a0, len0, cap0, rfl⟩ := okWide_slice Try.underlying32 (hval 0 32 v0 rfl rfl)
  have k0 := h0
  have lt0 : ∀ x ∈ p0, x.block < W.heap.size := by obtain ⟨m, hm⟩ := k0; exact DataW.trod_lt m _ _ _ hm
  obtain ⟨z0, w0⟩ : ∃ zs, IsRow .u16 W a0 len0 cap0 zs := by
    obtain ⟨fuel, hf⟩ := h0
    rcases open_ints Try.underlying32 Try.underlying39 (by kernel_rfl) hf with ⟨hcs, _⟩ | ⟨x, l, c, zs, hcs, _, hl, hm, hz, _, hcell, hwz⟩
    · simp [Value.cells] at hcs
      obtain ⟨rfl, rfl, rfl⟩ := hcs
      exact ⟨[], .inl ⟨rfl, rfl, rfl, rfl⟩⟩
    · simp [Value.cells] at hcs
      obtain ⟨rfl, rfl, rfl⟩ := hcs
      exact ⟨zs, .inr ⟨_, rfl, hl, hm, by simpa using hz, hcell, hwz⟩⟩
  obtain ⟨a1, len1, cap1, rfl⟩ := okWide_slice Try.underlying33 (hval 1 33 v1 rfl rfl)
  have k1 := h1
  have lt1 : ∀ x ∈ p1, x.block < W.heap.size := by obtain ⟨m, hm⟩ := k1; exact DataW.trod_lt m _ _ _ hm
  obtain ⟨z1, w1⟩ : ∃ zs, IsRow .i32 W a1 len1 cap1 zs := by
    obtain ⟨fuel, hf⟩ := h1
    rcases open_ints Try.underlying33 Try.underlying21 (by kernel_rfl) hf with ⟨hcs, _⟩ | ⟨x, l, c, zs, hcs, _, hl, hm, hz, _, hcell, hwz⟩
    · simp [Value.cells] at hcs
      obtain ⟨rfl, rfl, rfl⟩ := hcs
      exact ⟨[], .inl ⟨rfl, rfl, rfl, rfl⟩⟩
    · simp [Value.cells] at hcs
      obtain ⟨rfl, rfl, rfl⟩ := hcs
      exact ⟨zs, .inr ⟨_, rfl, hl, hm, by simpa using hz, hcell, hwz⟩⟩
  obtain ⟨a2, len2, cap2, rfl⟩ := okWide_slice Try.underlying24 (hval 2 24 v2 rfl rfl)
  have k2 := h2
  have lt2 : ∀ x ∈ p2, x.block < W.heap.size := by obtain ⟨m, hm⟩ := k2; exact DataW.trod_lt m _ _ _ hm
  obtain ⟨z2, w2⟩ : ∃ zs, IsRow .u8 W a2 len2 cap2 zs := by
    obtain ⟨fuel, hf⟩ := h2
    rcases open_ints Try.underlying24 Try.underlying5 (by kernel_rfl) hf with ⟨hcs, _⟩ | ⟨x, l, c, zs, hcs, _, hl, hm, hz, _, hcell, hwz⟩
    · simp [Value.cells] at hcs
      obtain ⟨rfl, rfl, rfl⟩ := hcs
      exact ⟨[], .inl ⟨rfl, rfl, rfl, rfl⟩⟩
    · simp [Value.cells] at hcs
      obtain ⟨rfl, rfl, rfl⟩ := hcs
      exact ⟨zs, .inr ⟨_, rfl, hl, hm, by simpa using hz, hcell, hwz⟩⟩
  clear hA0 hval0
  refine (walk a0 len0 cap0 z0 a1 len1 cap1 z1 a2 len2 cap2 z2 W w0 w1 w2).mono fun e W' ⟨he, bel⟩ => ?_
  subst he
  exact ⟨_, rfl, _, _, _, [], _, [], hW', trodAll_mk1 (shut_bool Try.underlying4 _), (trodAll_cons_mk (Below.trod laidOut (by kernel_rfl) (of_decide_eq_true (by kernel_rfl)) k0 bel lt0) (trodAll_cons_mk (Below.trod laidOut (by kernel_rfl) (of_decide_eq_true (by kernel_rfl)) k1 bel lt1) (trodAll_cons_mk (Below.trod laidOut (by kernel_rfl) (of_decide_eq_true (by kernel_rfl)) k2 bel lt2) trodAll_mk0))), rfl, bel.frame _, fun h => by cases h⟩

theorem over : Rows.fnReadDictDecodesScriptRow.holds Try.pinned (OpenSpec.ofChange Rows.fnReadDictDecodesScriptSpec) :=
  OpenClaim.holds_of_wide 6 Try.f6 rfl rfl rfl rfl rfl rfl rfl ⟨rfl, rfl, rfl, rfl, rfl⟩ rfl rfl rfl rfl rfl (by kernel_rfl) Try.func6 (by kernel_rfl)
    (of_decide_eq_true (by kernel_rfl)) (by unfold Func.isWrapper; first | (rw [if_pos (by decide +kernel)]; kernel_rfl) | (rw [if_neg (by decide +kernel)]; exact ⟨rfl, rfl⟩))
    (fun os started H enc _ => lifted os started H enc)

/-- ████ THE STATEMENT ████ -/
theorem proved : Rows.FnReadDictDecodesScriptSaid := over
end Go.Proofs.Qxb6001184a.fnReadDictDecodesScript
