/-
  Law 'FnNumberPointAgreesWithInteger' (function 5): the walk.
-/
import Derived.Test.Qxb6001184aReal
import Derived.Test.Qxb6001184aClones
import Derived.Deep.DeepCutAuto
import Derived.ChangeOld
namespace Go.Proofs.Qxb6001184a.fnNumberPointAgreesWithInteger
open Go.ChangeShapes Go.WideShapes Go.ChangeAt Go.RowKit
open Plain
set_option linter.unusedVariables false

set_option maxHeartbeats 400000 in
theorem zz11 (a0 : Option Addr) (len0 cap0 : Nat) (a1 : Option Addr) (len1 cap1 : Nat) (z : Int) (w : World) (h0 : len0 ≤ maxLen) (h1 : len1 ≤ maxLen) :
    Calls Try.prog 11 #[.slice a0 len0 cap0, .slice a1 len1 cap1, .int .u8 z] w fun e w' => e = .returned (.bool (decide (len0 + len1 ≤ 1048576))) ∧ w = w' := by
  unfold maxLen at h0 h1
  by_cases g0 : (1048576 : Int) < len0
  · go_enter Try.func11, Try.ntmps11
    go_wp2
    go_ret
    exact ⟨ret_bool (decide_eq_false (by omega)).symm, rfl⟩
  · by_cases g1 : (1048576 : Int) < len1
    · go_enter Try.func11, Try.ntmps11
      go_wp2
      go_ret
      exact ⟨ret_bool (decide_eq_false (by omega)).symm, rfl⟩
    · by_cases g2 : (1048576 : Int) < (len0 : Int) + (len1 : Int)
      · go_enter Try.func11, Try.ntmps11
        go_wp2
        go_ret
        exact ⟨ret_bool (decide_eq_false (by omega)).symm, rfl⟩
      · go_enter Try.func11, Try.ntmps11
        go_wp2
        go_ret
        exact ⟨ret_bool (decide_eq_true (by omega)).symm, rfl⟩

theorem cv_add (K : IntKind) (C : Nat → Int) (n m : Nat) : cv K C (n + m) = cv K C n ++ cv K (fun j => C (n + j)) m := by
  simp [cv, List.range_add, Function.comp_def]
theorem cv_congr (K : IntKind) (c c' : Nat → Int) (n : Nat) (h : ∀ j, j < n → c j = c' j) : cv K c n = cv K c' n := by
  simp only [cv]
  apply List.map_congr_left
  intro j hj
  rw [h j (by simpa using hj)]

/-- what is written: d, a point, f, zeros -/
def txt (c0 c1 : Nat → Int) (n0 n1 : Nat) (j : Nat) : Int := if j < n0 then c0 j else if j = n0 then 46 else if j < n0 + 1 + n1 then c1 (j - n0 - 1) else 48
theorem txt_d (c0 c1 : Nat → Int) (n0 n1 j : Nat) (h : j < n0) : txt c0 c1 n0 n1 j = c0 j := by simp [txt, h]
theorem txt_dot (c0 c1 : Nat → Int) (n0 n1 : Nat) : txt c0 c1 n0 n1 n0 = 46 := by simp [txt]
theorem txt_f (c0 c1 : Nat → Int) (n0 n1 j : Nat) (h : j < n1) : txt c0 c1 n0 n1 (n0 + 1 + j) = c1 j := by
  simp only [txt]
  rw [if_neg (by omega), if_neg (by omega), if_pos (by omega)]
  congr 1; omega
theorem txt_z (c0 c1 : Nat → Int) (n0 n1 j : Nat) : txt c0 c1 n0 n1 (n0 + 1 + n1 + j) = 48 := by
  simp only [txt]
  rw [if_neg (by omega), if_neg (by omega), if_neg (by omega)]

theorem hvf_congr (c c' : Nat → Int) (s k : Nat) (h : ∀ j, j < k → c (s + j) = c' (s + j)) : hvf c s k = hvf c' s k := by
  induction k with
  | zero => rfl
  | succ k ih => rw [hvf_succ, hvf_succ, ih (fun j hj => h j (by omega)), h k (by omega)]

theorem row_cells {w : World} {g n : Nat} {c : Nat → Int} (h : RowAt .u8 w (some ⟨g, 0, none⟩) n c) (hn : n ≠ 0) : (∀ j, j < n → w.cell? ⟨g, j, none⟩ = some (.int .u8 (c j))) ∧ g < w.heap.size := by
  rcases h with h | ⟨b, off, ha, hlt, hc⟩
  · exact absurd h hn
  · simp only [Option.some.injEq, Addr.mk.injEq, and_true] at ha
    obtain ⟨rfl, rfl⟩ := ha
    exact ⟨fun j hj => by have := hc j hj; rwa [Nat.zero_add] at this, hlt⟩

theorem row_of_own {w : World} {base g n cap : Nat} {c : Nat → Int} (h : w.ownsRow base 5 1 (.slice (some ⟨g, 0, none⟩) n cap) n (cv .u8 c n)) : RowAt .u8 w (some ⟨g, 0, none⟩) n c :=
  .inr ⟨g, 0, rfl, ownsRow_lt h, fun j hj => by rw [Nat.zero_add, h.cellAt j (by omega), cv_get .u8 c n j hj]⟩

/-- 'ZZNumber' at digits -/
theorem zz_digits (g n cap : Nat) (c : Nat → Int) (w : World) (h1 : 1 ≤ n) (h18 : n ≤ 18) (hd : ∀ j, j < n → 48 ≤ c j ∧ c j ≤ 57) (hrow : RowAt .u8 w (some ⟨g, 0, none⟩) n c) :
    Calls Try.prog 8 #[.slice (some ⟨g, 0, none⟩) n cap] w fun e w' => e = .returned (.tuple #[.int .i64 (hvf c 0 n), .float .f64 0, .bool true]) ∧ Below w.heap.size w w' := by
  obtain ⟨hc, hg⟩ := row_cells hrow (by omega)
  have h := number_int g n cap 0 false c w (.inl ⟨rfl, rfl, (hd 0 (by omega)).1⟩) (by omega) (by omega) (fun j hj => by rw [Nat.zero_add]; exact hd j (by omega)) hc hg
  exact zz_of _ _ _ _ _ _ w h

/-- 'ZZNumber' at digits and a point -/
theorem zz_point (g n cap nd : Nat) (c : Nat → Int) (w : World) (h1 : 1 ≤ nd) (h18 : nd ≤ 18) (hn : n = nd + 1) (hd : ∀ j, j < nd → 48 ≤ c j ∧ c j ≤ 57) (hdot : c nd = 46) (hrow : RowAt .u8 w (some ⟨g, 0, none⟩) n c) :
    Calls Try.prog 8 #[.slice (some ⟨g, 0, none⟩) n cap] w fun e w' => e = .returned (.tuple #[.int .i64 0, .float .f64 (floatOfInt .f64 (hvf c 0 nd)), .bool false]) ∧ Below w.heap.size w w' := by
  obtain ⟨hc, hg⟩ := row_cells hrow (by omega)
  exact zz_of _ _ _ _ _ _ w (number_point g n cap nd c w h1 h18 hn hd hdot hc hg)

/-- 'ZZNumber' at digits, a point, digits -/
theorem zz_frac (g n cap nd nf : Nat) (c : Nat → Int) (R : Nat) (w : World) (h1 : 1 ≤ nd) (h15 : nd + nf ≤ 15) (hn : n = nd + 1 + nf) (hd : ∀ j, j < nd → 48 ≤ c j ∧ c j ≤ 57) (hdot : c nd = 46) (hf : ∀ j, j < nf → 48 ≤ c (nd + 1 + j) ∧ c (nd + 1 + j) ≤ 57)
    (hrow : RowAt .u8 w (some ⟨g, 0, none⟩) n c) (hR : Ieee.double.div (Fl.encN (hvp (hvf c 0 nd) c (nd + 1) nf).toNat) (Fl.encN (10 ^ nf)) = some R) :
    Calls Try.prog 8 #[.slice (some ⟨g, 0, none⟩) n cap] w fun e w' => e = .returned (.tuple #[.int .i64 0, .float .f64 R, .bool false]) ∧ Below w.heap.size w w' := by
  obtain ⟨hc, hg⟩ := row_cells hrow (by omega)
  exact zz_of _ _ _ _ _ _ w (number_frac g n cap nd nf c R w h1 h15 hn hd hdot hf hc hg hR)

/-- zeros behind the digits do not turn the quotient -/
theorem frac_zeros (C : Nat → Int) (nd nf z : Nat) (h15 : nd + nf + z ≤ 15) (hd : ∀ j, j < nd → 48 ≤ C j ∧ C j ≤ 57) (hf : ∀ j, j < nf → 48 ≤ C (nd + 1 + j) ∧ C (nd + 1 + j) ≤ 57) (hz : ∀ j, j < z → C (nd + 1 + nf + j) = 48) :
    ∃ R, Ieee.double.div (Fl.encN (hvp (hvf C 0 nd) C (nd + 1) nf).toNat) (Fl.encN (10 ^ nf)) = some R ∧
      Ieee.double.div (Fl.encN (hvp (hvf C 0 nd) C (nd + 1) (nf + z)).toNat) (Fl.encN (10 ^ (nf + z))) = some R ∧ Ieee.double.order R R = some .eq := by
  have hb := hvf_bounds C 0 nd (fun j hj => by rw [Nat.zero_add]; exact hd j hj)
  have h1 := hvp_bounds _ C (nd + 1) nf nd hb.1 hb.2 (fun j hj => hf j hj)
  have h2 := hvp_zeros (hvf C 0 nd) C (nd + 1) nf z (fun j hj => by rw [show nd + 1 + nf + j = nd + 1 + nf + j from rfl]; exact hz j hj)
  generalize hvp (hvf C 0 nd) C (nd + 1) nf = N at *
  have e53 : (2 : Nat) ^ 53 = 9007199254740992 := by decide
  have p15 : ∀ m, m ≤ 15 → 10 ^ m ≤ 1000000000000000 := fun m hm => by
    have := Nat.pow_le_pow_right (show 0 < 10 by omega) hm
    have e : (10 : Nat) ^ 15 = 1000000000000000 := by decide
    omega
  obtain ⟨M, rfl⟩ := Int.eq_ofNat_of_zero_le h1.1
  have hM : M < 10 ^ (nd + nf) := by exact_mod_cast h1.2
  have hMz : M * 10 ^ z < 10 ^ (nd + nf + z) := by rw [Nat.pow_add]; exact Nat.mul_lt_mul_of_pos_right hM (Nat.pow_pos (by omega))
  have e1 : ((M : Int) * 10 ^ z).toNat = M * 10 ^ z := by
    have : ((M : Int) * 10 ^ z) = ((M * 10 ^ z : Nat) : Int) := by push_cast; rfl
    rw [this, Int.toNat_natCast]
  rw [h2, e1, Int.toNat_natCast, Nat.pow_add]
  have pz : (10 : Nat) ^ z ≠ 0 := Nat.ne_of_gt (Nat.pow_pos (by omega))
  have pf : (10 : Nat) ^ nf ≠ 0 := Nat.ne_of_gt (Nat.pow_pos (by omega))
  have q1 := p15 (nd + nf + z) h15
  have q2 := p15 (nd + nf) (by omega)
  have q3 := p15 (nf + z) (by omega)
  have q4 := p15 nf (by omega)
  rw [Nat.pow_add] at q3
  obtain ⟨R, hR, hRR⟩ := Fl.div_some M (10 ^ nf) pf (by omega) (by omega)
  exact ⟨R, hR, by rw [Fl.div_ratio M (10 ^ nf) (10 ^ z) pz pf (by omega) (by omega)]; exact hR, hRR⟩

/-- what a row hands to an append -/
theorem news_row {K : IntKind} {w : World} {a : Option Addr} {n : Nat} {c : Nat → Int} (h : RowAt K w a n c) : ∀ ad, a = some ad → ∀ j u, (cv K c n)[j]? = some u → w.cell? (ad.add j) = some u := by
  intro ad ha j u hj
  have hjn : j < n := by
    rcases Nat.lt_or_ge j n with h | h
    · exact h
    · rw [List.getElem?_eq_none (by rw [cv_length]; exact h)] at hj; exact absurd hj (by simp)
  rw [cv_get K c n j hjn] at hj
  rcases h with h | ⟨b, off, hab, _, hc⟩
  · omega
  · rw [ha] at hab
    simp only [Option.some.injEq] at hab
    subst hab
    rw [show (⟨b, off, none⟩ : Addr).add j = ⟨b, off + j, none⟩ by simp [Addr.add], hc j hjn]
    exact hj

/-- a row grown by an append, said by one function -/
theorem own_app {w : World} {base g cap n m : Nat} {C c' : Nat → Int} (h : w.ownsRow base 5 1 (.slice (some ⟨g, 0, none⟩) (n + m) cap) (n + m) (cv .u8 C n ++ cv .u8 c' m)) (hc : ∀ j, j < m → c' j = C (n + j)) :
    w.ownsRow base 5 1 (.slice (some ⟨g, 0, none⟩) (n + m) cap) (n + m) (cv .u8 C (n + m)) := by
  rw [cv_add, ← cv_congr .u8 c' (fun j => C (n + j)) m hc]; exact h
theorem own_app0 {w : World} {base g cap m : Nat} {C c' : Nat → Int} (h : w.ownsRow base 5 1 (.slice (some ⟨g, 0, none⟩) (0 + m) cap) (0 + m) ([] ++ cv .u8 c' m)) (hc : ∀ j, j < m → c' j = C j) :
    w.ownsRow base 5 1 (.slice (some ⟨g, 0, none⟩) m cap) m (cv .u8 C m) := by
  rw [← cv_congr .u8 c' C m hc]
  simpa using h
theorem one_cv (x : Int) : [Value.int .u8 x] = cv .u8 (fun _ => x) 1 := rfl

theorem Try.info5' : (Try.prog.info? 5).map (fun i => (i.zero, i.size, i.bytes)) = some (some (.int .u8 0), 1, 1) := by kernel_rfl

set_option maxHeartbeats 2000000 in
set_option maxRecDepth 100000 in
theorem walk_in (a0 : Option Addr) (len0 cap0 : Nat) (a1 : Option Addr) (len1 cap1 : Nat) (c0 c1 : Nat → Int) (z : Int) (w : World)
    (h0 : RowAt .u8 w a0 len0 c0) (h1 : RowAt .u8 w a1 len1 c1) (hn1 : a1 = none → len1 = 0) (hz0 : 0 ≤ z) (hz1 : z ≤ 255)
    (hlen : len0 + len1 ≤ 131072) (hpos : 1 ≤ len0) (hd : digB c0 len0 = true) (hf : digB c1 len1 = true) :
    Calls Try.prog 5 #[.slice a0 len0 cap0, .slice a1 len1 cap1, .int .u8 z] w fun e w' => e = .returned (.bool true) ∧ Below w.heap.size w w' := by
  obtain ⟨i0, hi, hi0, hi1, hi2⟩ := info_parts Try.info5'
  obtain ⟨Z, rfl⟩ := Int.eq_ofNat_of_zero_le hz0
  clear hz0
  have HD : Hid (∀ j, j < len0 → 48 ≤ c0 j ∧ c0 j ≤ 57) := (of_decide_eq_true hd : ∀ j, j < len0 → 48 ≤ c0 j ∧ c0 j ≤ 57)
  have HF : Hid (∀ j, j < len1 → 48 ≤ c1 j ∧ c1 j ≤ 57) := (of_decide_eq_true hf : ∀ j, j < len1 → 48 ≤ c1 j ∧ c1 j ≤ 57)
  have H0 : Hid (RowAt .u8 w a0 len0 c0) := h0
  have H1 : Hid (RowAt .u8 w a1 len1 c1) := h1
  have HN1 : Hid (a1 = none → len1 = 0) := hn1
  have hle : decide (len0 + len1 ≤ 1048576) = true := decide_eq_true (by omega)
  have hl0 : ((len0 : Int) == 0) = false := by simp; omega
  have ha0 : a0 ≠ none := by
    rcases h0 with h | ⟨b, off, h, _⟩
    · omega
    · rw [h]; simp
  clear h0 h1 hn1
  go_enter Try.func5, Try.ntmps5
  go_wp2_with fail
  refine (zz11 a0 len0 cap0 a1 len1 cap1 _ _ (by unfold maxLen; omega) (by unfold maxLen; omega)).mono ?_
  rintro e w1 ⟨rfl, rfl⟩
  go_wp2_with fail
  refine (numIsDigits_calls a0 len0 cap0 c0 _ H0.out (by omega)).mono ?_
  rintro e w1 ⟨rfl, rfl⟩
  go_wp2_with fail
  refine (numIsDigits_calls a1 len1 cap1 c1 _ H1.out (by omega)).mono ?_
  rintro e w1 ⟨rfl, rfl⟩
  go_wp2_with fail
  refine (cloneBytes_calls a0 len0 cap0 c0 _ H0.out (by omega)).mono ?_
  rintro e w1 ⟨v0, rfl, hcl⟩
  rcases hcl with ⟨hh, _⟩ | ⟨_, rfl, hown1, hb1⟩
  · exact absurd hh ha0
  have H1' : Hid (RowAt .u8 w1 a1 len1 c1) := H1.out.below hb1
  clear H1 H0 hl0 hle
  go_wp2_with fail
  refine (cloneBytes_calls a1 len1 cap1 c1 _ H1'.out (by omega)).mono ?_
  rintro e w2 ⟨v1, rfl, hcl⟩
  obtain ⟨af, capf, hv1, hrf, hnf, hb2⟩ : ∃ af capf, v1 = .slice af len1 capf ∧ RowAt .u8 w2 af len1 c1 ∧ (af = none → len1 = 0 ∧ capf = 0) ∧ Below w1.heap.size w1 w2 := by
    rcases hcl with ⟨hh, rfl, rfl⟩ | ⟨_, rfl, hown2, hb2⟩
    · have e := HN1.out hh
      subst e
      exact ⟨none, 0, rfl, .inl rfl, fun _ => ⟨rfl, rfl⟩, Below.refl _ _⟩
    · exact ⟨_, _, rfl, row_of_own hown2, fun h => absurd h (by simp), hb2⟩
  rw [hv1]
  have HRd : Hid (RowAt .u8 w2 (some ⟨w.heap.size, 0, none⟩) len0 c0) := (row_of_own hown1).below hb2
  have HRf : Hid (RowAt .u8 w2 af len1 c1) := hrf
  have HNf : Hid (af = none → len1 = 0 ∧ capf = 0) := hnf
  have HB2 : Hid (Below w.heap.size w w2) := hb1.trans (hb2.mono hb1.size)
  clear hv1 hrf hnf hb1 hb2 hown1 H1' hcl HN1 hd hf
  go_upto_if 54 with (fail)
  go_cut [7, 8, 9, 10, 11, 12, 13] (fun _ _ _ _ _ _ _ wx => Below w2.heap.size w2 wx)
  case first =>
    by_cases h18 : len0 ≤ 18
    · have hbd := hvf_lt18 c0 0 len0 (fun j hj => by rw [Nat.zero_add]; exact HD.out j hj) h18
      have hself : (FloatKind.f64.format.order (floatOfInt .f64 (hvf c0 0 len0)) (floatOfInt .f64 (hvf c0 0 len0)) != some Ordering.eq) = false := by
        have := (Fl.whole_over_one (hvf c0 0 len0).toNat (by have : (2 : Nat) ^ 60 = 1152921504606846976 := by decide
                                                             omega)).2
        rw [← floatOfInt_nearest _ hbd.1] at this
        show (Ieee.double.order _ _ != _) = false
        rw [this]; rfl
      go_wp2_with fail
      refine (zz_digits w.heap.size len0 len0 c0 _ (by omega) h18 HD.out HRd.out).mono ?_
      rintro e w3 ⟨rfl, hb3⟩
      have HRd3 : Hid (RowAt .u8 w3 (some ⟨w.heap.size, 0, none⟩) len0 c0) := HRd.out.below hb3
      have HB3 : Hid (Below w2.heap.size w2 w3) := hb3
      clear hb3
      go_upto_region 12 with (first | (at_make; refine wpList_make_own _ rfl (.const (.int .i64 0)) (.tmp 63) 24 rfl w3.heap.size 5 i0 (.int .u8 0) 1 Try.underlying24 hi hi0 hi1 .i64 .i64 _ (len0 + 1) rfl rfl (by omega) (by rw [hi2]; omega) (by unfold maxLen; omega) (Nat.le_refl _) ?_; intro w4 hown4 hgrow4))
      have hb4 : Below w3.heap.size w3 w4 := (Below.refl _ _).grown hgrow4 (Nat.le_refl _) (by simp)
      have HRd4 : Hid (RowAt .u8 w4 (some ⟨w.heap.size, 0, none⟩) len0 c0) := HRd3.out.below hb4
      clear hgrow4
      go_upto_region 13 with (first | (at_builtin; refine wpList_append_fits _ rfl (.tmp 65) (.tmp 66) 24 rfl w3.heap.size 5 i0 1 Try.underlying24 hi hi1 w3.heap.size 0 (len0 + 1) [] rfl hown4 ⟨w.heap.size, 0, none⟩ len0 len0 (cv .u8 c0 len0) rfl (by simp [cv_length]) (news_row HRd4.out _ rfl) (cv_cell _ _ _) (by omega) ?_; intro w5 hown5 hgrow5))
      have hown5' := own_app0 (C := txt c0 c1 len0 len1) hown5 (fun j hj => (txt_d c0 c1 len0 len1 j hj).symm)
      have hb5 : Below w3.heap.size w3 w5 := hb4.grown hgrow5 hb4.size (by simp)
      have hs5 : w3.heap.size < w5.heap.size := ownsRow_lt hown5'
      clear hgrow5 hb4 hown4 hown5
      go_upto_region 14 with (first | (at_builtin; refine wpList_append_fits _ rfl (.tmp 68) (.tmp 69) 24 rfl w3.heap.size 5 i0 1 Try.underlying24 hi hi1 w3.heap.size len0 (len0 + 1) _ rfl (hown5'.alloc _) ⟨_, 0, none⟩ 1 1 [.int .u8 46] rfl rfl (cell_one_new _ _ _) (cv_cell .u8 (fun _ => 46) 1) (by omega) ?_; intro w6 hown6 hgrow6))
      have hown6' := own_app (C := txt c0 c1 len0 len1) (c' := fun _ => 46) hown6 (fun j hj => by obtain rfl : j = 0 := by omega
                                                                                                  exact (txt_dot c0 c1 len0 len1).symm)
      have hb6 : Below w3.heap.size w3 w6 := (hb5.alloc (by omega) _).grown hgrow6 (by simp; omega) (by simp)
      clear hgrow6 hown6 hown5' hb5 hs5
      go_wp2_with fail
      refine (zz_point w3.heap.size (len0 + 1) (len0 + 1) len0 (txt c0 c1 len0 len1) _ (by omega) h18 rfl (fun j hj => by rw [txt_d _ _ _ _ _ hj]; exact HD.out j hj) (txt_dot _ _ _ _) (row_of_own hown6')).mono ?_
      rintro e w7 ⟨rfl, hb7⟩
      rw [hvf_congr (txt c0 c1 len0 len1) c0 0 len0 (fun j hj => by rw [Nat.zero_add]; exact txt_d _ _ _ _ _ hj)]
      have HB7 : Hid (Below w2.heap.size w2 w7) := (HB3.out.trans (hb6.mono HB3.out.size)).trans (hb7.mono (by have := HB3.out.size; have := hb6.size; omega))
      clear hb7 hb6 hown6'
      go_wp2
      go_meet
      case rel => exact HB7.out
    · go_wp2
      go_meet
      case rel => exact Below.refl _ _
  case rest =>
    obtain ⟨w3, hw3⟩ : ∃ w3, w3 = wc := ⟨_, rfl⟩
    subst hw3
    have HB3 : Hid (Below w2.heap.size w2 w3) := hcut
    have HB3' : Hid (Below w.heap.size w w3) := HB2.out.trans (hcut.mono HB2.out.size)
    have HRd3 : Hid (RowAt .u8 w3 (some ⟨w.heap.size, 0, none⟩) len0 c0) := HRd.out.below hcut
    have HRf3 : Hid (RowAt .u8 w3 af len1 c1) := HRf.out.below hcut
    clear hcut HB3 HRd HRf HB2
    by_cases h15 : len0 + len1 + Z ≤ 15
    · go_upto_region 20 with (first | (at_make; refine wpList_make_own _ rfl (.const (.int .i64 0)) (.tmp 103) 24 rfl w3.heap.size 5 i0 (.int .u8 0) 1 Try.underlying24 hi hi0 hi1 .i64 .i64 _ (len0 + 1 + len1) rfl rfl (by omega) (by rw [hi2]; omega) (by unfold maxLen; omega) (Nat.le_refl _) ?_; intro w4 hown4 hgrow4))
      have hb4 : Below w3.heap.size w3 w4 := (Below.refl _ _).grown hgrow4 (Nat.le_refl _) (by simp)
      have HRd4 : Hid (RowAt .u8 w4 (some ⟨w.heap.size, 0, none⟩) len0 c0) := HRd3.out.below hb4
      clear hgrow4
      go_upto_region 21 with (first | (at_builtin; refine wpList_append_fits _ rfl (.tmp 105) (.tmp 106) 24 rfl w3.heap.size 5 i0 1 Try.underlying24 hi hi1 w3.heap.size 0 (len0 + 1 + len1) [] rfl hown4 ⟨w.heap.size, 0, none⟩ len0 len0 (cv .u8 c0 len0) rfl (by simp [cv_length]) (news_row HRd4.out _ rfl) (cv_cell _ _ _) (by omega) ?_; intro w5 hown5 hgrow5))
      have hown5' := own_app0 (C := txt c0 c1 len0 len1) hown5 (fun j hj => (txt_d c0 c1 len0 len1 j hj).symm)
      have hb5 : Below w3.heap.size w3 w5 := hb4.grown hgrow5 hb4.size (by simp)
      have hs5 : w3.heap.size < w5.heap.size := ownsRow_lt hown5'
      clear hgrow5 hb4 hown4 hown5 HRd4
      go_upto_region 22 with (first | (at_builtin; refine wpList_append_fits _ rfl (.tmp 108) (.tmp 109) 24 rfl w3.heap.size 5 i0 1 Try.underlying24 hi hi1 w3.heap.size len0 (len0 + 1 + len1) _ rfl (hown5'.alloc _) ⟨_, 0, none⟩ 1 1 [.int .u8 46] rfl rfl (cell_one_new _ _ _) (cv_cell .u8 (fun _ => 46) 1) (by omega) ?_; intro w6 hown6 hgrow6))
      have hown6' := own_app (C := txt c0 c1 len0 len1) (c' := fun _ => 46) hown6 (fun j hj => by obtain rfl : j = 0 := by omega
                                                                                                  exact (txt_dot c0 c1 len0 len1).symm)
      have hb6 : Below w3.heap.size w3 w6 := (hb5.alloc (by omega) _).grown hgrow6 (by simp; omega) (by simp)
      have HRf6 : Hid (RowAt .u8 w6 af len1 c1) := HRf3.out.below hb6
      clear hgrow6 hown6 hown5' hb5 hs5
      go_upto_region 23 with (first | (at_builtin; refine wpList_append_fits_any _ rfl (.tmp 111) (.tmp 112) 24 rfl w3.heap.size 5 i0 1 Try.underlying24 hi hi1 w3.heap.size (len0 + 1) (len0 + 1 + len1) _ rfl hown6' af len1 capf (cv .u8 c1 len1) rfl (by simp [cv_length]) HNf.out (news_row HRf6.out) (cv_cell _ _ _) (by omega) ?_; intro w7 hown7 hgrow7))
      have hown7' := own_app (C := txt c0 c1 len0 len1) (c' := c1) hown7 (fun j hj => (txt_f c0 c1 len0 len1 j hj).symm)
      have hb7 : Below w3.heap.size w3 w7 := hb6.grown hgrow7 hb6.size (by simp)
      have HR7 : Hid (RowAt .u8 w7 (some ⟨w3.heap.size, 0, none⟩) (len0 + 1 + len1) (txt c0 c1 len0 len1)) := row_of_own hown7'
      have HB7 : Hid (Below w3.heap.size w3 w7) := hb7
      clear hgrow7 hown7 hown6' hb6 hown7' hb7 HRf6
      go_upto_region 24 with (first | (at_make; refine wpList_make_own _ rfl (.const (.int .i64 0)) (.tmp 117) 24 rfl w7.heap.size 5 i0 (.int .u8 0) 1 Try.underlying24 hi hi0 hi1 .i64 .i64 _ (len0 + 1 + len1 + Z) rfl rfl (by omega) (by rw [hi2]; omega) (by unfold maxLen; omega) (Nat.le_refl _) ?_; intro w8 hown8 hgrow8))
      have hb8 : Below w7.heap.size w7 w8 := (Below.refl _ _).grown hgrow8 (Nat.le_refl _) (by simp)
      have HR8 : Hid (RowAt .u8 w8 (some ⟨w3.heap.size, 0, none⟩) (len0 + 1 + len1) (txt c0 c1 len0 len1)) := HR7.out.below hb8
      clear hgrow8
      go_upto_region 25 with (first | (at_builtin; refine wpList_append_fits _ rfl (.tmp 119) (.tmp 120) 24 rfl w7.heap.size 5 i0 1 Try.underlying24 hi hi1 w7.heap.size 0 (len0 + 1 + len1 + Z) [] rfl hown8 ⟨w3.heap.size, 0, none⟩ (len0 + 1 + len1) (len0 + 1 + len1) (cv .u8 (txt c0 c1 len0 len1) (len0 + 1 + len1)) rfl (by simp [cv_length]) (news_row HR8.out _ rfl) (cv_cell _ _ _) (by omega) ?_; intro w9 hown9 hgrow9))
      have hown9' := own_app0 (C := txt c0 c1 len0 len1) hown9 (fun j hj => rfl)
      have hb9 : Below w7.heap.size w7 w9 := hb8.grown hgrow9 hb8.size (by simp)
      clear hgrow9 hown9 hown8 hb8 HR8
      go_wp2
      go_loopw [16, 17] (fun b j wr => ∃ J : Nat, J ≤ Z ∧ j = .int .i64 J ∧ b = .slice (some ⟨w7.heap.size, 0, none⟩) (len0 + 1 + len1 + J) (len0 + 1 + len1 + Z) ∧ wr.ownsRow w7.heap.size 5 1 (.slice (some ⟨w7.heap.size, 0, none⟩) (len0 + 1 + len1 + J) (len0 + 1 + len1 + Z)) (len0 + 1 + len1 + J) (cv .u8 (txt c0 c1 len0 len1) (len0 + 1 + len1 + J)) ∧ Below w7.heap.size w7 wr) (fun _ j _ => Z - (intOf j).toNat)
      case atStart => exact ⟨0, by omega, rfl, rfl, hown9', hb9⟩
      case round =>
        obtain ⟨J, hJ, rfl, rfl, hownJ, hbJ⟩ := hrel
        clear hown9' hb9
        have hsJ : w7.heap.size < wr.heap.size := ownsRow_lt hownJ
        by_cases hlt : J < Z
        · go_wp2_with (first | (at_builtin; refine wpList_append_fits _ rfl (.tmp 127) (.tmp 128) 24 rfl w7.heap.size 5 i0 1 Try.underlying24 hi hi1 w7.heap.size (len0 + 1 + len1 + J) (len0 + 1 + len1 + Z) _ rfl (hownJ.alloc _) ⟨_, 0, none⟩ 1 1 [.int .u8 48] rfl rfl (cell_one_new _ _ _) (cv_cell .u8 (fun _ => 48) 1) (by omega) ?_; intro w10 hown10 hgrow10))
          have hown10' := own_app (C := txt c0 c1 len0 len1) (c' := fun _ => 48) hown10 (fun j hj => by obtain rfl : j = 0 := by omega
                                                                                                        exact (txt_z c0 c1 len0 len1 _).symm)
          have hb10 : Below w7.heap.size w7 w10 := (hbJ.alloc (by omega) _).grown hgrow10 (by simp; omega) (by simp)
          clear hgrow10 hown10 hbJ hownJ
          go_roundw
          case rel => exact ⟨J + 1, by omega, by go_num, rfl, hown10', hb10⟩
          case measure => simp [intOf]; omega
        · obtain rfl : J = Z := by omega
          obtain ⟨R, hR1, hR2, hRR⟩ := frac_zeros (txt c0 c1 len0 len1) len0 len1 J (by omega) (fun j hj => by rw [txt_d _ _ _ _ _ hj]; exact HD.out j hj) (fun j hj => by rw [txt_f _ _ _ _ _ hj]; exact HF.out j hj) (fun j hj => txt_z _ _ _ _ _)
          have hRR' : (FloatKind.f64.format.order R R != some Ordering.eq) = false := by
            show (Ieee.double.order _ _ != _) = false
            rw [hRR]; rfl
          have HR1 : Hid (Ieee.double.div (Fl.encN (hvp (hvf (txt c0 c1 len0 len1) 0 len0) (txt c0 c1 len0 len1) (len0 + 1) len1).toNat) (Fl.encN (10 ^ len1)) = some R) := hR1
          have HR2 : Hid (Ieee.double.div (Fl.encN (hvp (hvf (txt c0 c1 len0 len1) 0 len0) (txt c0 c1 len0 len1) (len0 + 1) (len1 + J)).toNat) (Fl.encN (10 ^ (len1 + J))) = some R) := hR2
          have HRo : Hid (RowAt .u8 wr (some ⟨w7.heap.size, 0, none⟩) (len0 + 1 + len1 + J) (txt c0 c1 len0 len1)) := row_of_own hownJ
          have HRp : Hid (RowAt .u8 wr (some ⟨w3.heap.size, 0, none⟩) (len0 + 1 + len1) (txt c0 c1 len0 len1)) := HR7.out.below hbJ
          have HBJ : Hid (Below w7.heap.size w7 wr) := hbJ
          clear hR1 hR2 hRR hownJ hbJ
          go_wp2_with fail
          refine (zz_frac w3.heap.size (len0 + 1 + len1) (len0 + 1 + len1) len0 len1 (txt c0 c1 len0 len1) R _ (by omega) (by omega) rfl (fun j hj => by rw [txt_d _ _ _ _ _ hj]; exact HD.out j hj) (txt_dot _ _ _ _) (fun j hj => by rw [txt_f _ _ _ _ _ hj]; exact HF.out j hj) HRp.out HR1.out).mono ?_
          rintro e w11 ⟨rfl, hb11⟩
          have HRq : Hid (RowAt .u8 w11 (some ⟨w7.heap.size, 0, none⟩) (len0 + 1 + len1 + J) (txt c0 c1 len0 len1)) := HRo.out.below hb11
          have HB11 : Hid (Below wr.heap.size wr w11) := hb11
          clear hb11 HRo HRp
          go_wp2_with fail
          refine (zz_frac w7.heap.size (len0 + 1 + len1 + J) (len0 + 1 + len1 + J) len0 (len1 + J) (txt c0 c1 len0 len1) R _ (by omega) (by omega) (by omega) (fun j hj => by rw [txt_d _ _ _ _ _ hj]; exact HD.out j hj) (txt_dot _ _ _ _) (fun j hj => by
            rcases Nat.lt_or_ge j len1 with h | h
            · rw [txt_f _ _ _ _ _ h]; exact HF.out j h
            · rw [show len0 + 1 + j = len0 + 1 + len1 + (j - len1) by omega, txt_z]; omega) HRq.out HR2.out).mono ?_
          rintro e w12 ⟨rfl, hb12⟩
          have HBF : Hid (Below w.heap.size w w12) := by
            have s3 := HB3'.out.size
            have s7 := HB7.out.size
            have sJ := HBJ.out.size
            have s11 := HB11.out.size
            exact (((HB3'.out.trans (HB7.out.mono (by omega))).trans (HBJ.out.mono (by omega))).trans (HB11.out.mono (by omega))).trans (hb12.mono (by omega))
          clear hb12
          go_wp2
          go_ret
          exact ⟨rfl, HBF.out⟩
    · go_wp2
      go_ret
      exact ⟨rfl, HB3'.out⟩

end Go.Proofs.Qxb6001184a.fnNumberPointAgreesWithInteger
