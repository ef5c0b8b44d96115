/-
  Law 'FnReadDictDecodesScript' (function 6): the walk.
-/
import Derived.Test.Qxb6001184aScript
import Derived.ChangeOld
namespace Go.Proofs.Qxb6001184a.fnReadDictDecodesScript
open Go.ChangeShapes Go.WideShapes Go.ChangeAt Go.RowKit Go.Maps
open Dict
set_option linter.unusedVariables false

set_option maxHeartbeats 400000 in
theorem zz13 (a0 : Option Addr) (len0 cap0 : Nat) (a1 : Option Addr) (len1 cap1 : Nat) (a2 : Option Addr) (len2 cap2 : Nat) (w : World) (h0 : len0 ≤ maxLen) (h1 : len1 ≤ maxLen) (h2 : len2 ≤ maxLen) :
    Calls Try.prog 13 #[.slice a0 len0 cap0, .slice a1 len1 cap1, .slice a2 len2 cap2] w fun e w' => e = .returned (.bool (decide (len0 + len1 + len2 ≤ 1048576))) ∧ w = w' := by
  unfold maxLen at h0 h1 h2
  by_cases g0 : (1048576 : Int) < len0
  · go_enter Try.func13, Try.ntmps13
    go_wp2
    go_ret
    exact ⟨ret_bool (decide_eq_false (by omega)).symm, rfl⟩
  by_cases g1 : (1048576 : Int) < len1
  · go_enter Try.func13, Try.ntmps13
    go_wp2
    go_ret
    exact ⟨ret_bool (decide_eq_false (by omega)).symm, rfl⟩
  by_cases g2 : (1048576 : Int) < (len0 : Int) + (len1 : Int)
  · go_enter Try.func13, Try.ntmps13
    go_wp2
    go_ret
    exact ⟨ret_bool (decide_eq_false (by omega)).symm, rfl⟩
  by_cases g3 : (1048576 : Int) < len2
  · go_enter Try.func13, Try.ntmps13
    go_wp2
    go_ret
    exact ⟨ret_bool (decide_eq_false (by omega)).symm, rfl⟩
  by_cases g4 : (1048576 : Int) < (len0 : Int) + (len1 : Int) + (len2 : Int)
  · go_enter Try.func13, Try.ntmps13
    go_wp2
    go_ret
    exact ⟨ret_bool (decide_eq_false (by omega)).symm, rfl⟩
  · go_enter Try.func13, Try.ntmps13
    go_wp2
    go_ret
    exact ⟨ret_bool (decide_eq_true (by omega)).symm, rfl⟩

/-- a clone, as the law uses it -/
theorem clone_view {K : IntKind} {E : TypeId} {w w' : World} {a : Option Addr} {len : Nat} {c : Nat → Int} {v : Value} (h : Cloned K E w w' a len c v) (hn : a = none → len = 0) :
    ∃ af capf, v = .slice af len capf ∧ RowAt K w' af len c ∧ Below w.heap.size w w' := by
  rcases h with ⟨hh, rfl, rfl⟩ | ⟨_, rfl, hown, hb⟩
  · have e := hn hh
    subst e
    exact ⟨none, 0, rfl, .inl rfl, Below.refl _ _⟩
  · exact ⟨_, _, rfl, .inr ⟨w.heap.size, 0, rfl, ownsRow_lt hown, fun j hj => by rw [Nat.zero_add, hown.cellAt j (by omega), cv_get K c len j hj]⟩, hb⟩

/-- THE LOOP's STATE: the buffer holds L; the map of what is expected reads as D; what was there before is as it was. -/
structure Inv (W0 wx : World) (g cap Bm k N : Nat) (L : List Int) (D : DataW Unit) : Prop where
  len : L.length = N
  row : wx.ownsRow g 5 1 (.slice (some ⟨g, 0, none⟩) N cap) N (bv L)
  map : wx.ownsMap Try.prog 3 (plainElem Try.prog 3) Bm k D
  below : Below g W0 wx
  ne : g < Bm
  sz : W0.heap.size = g

theorem Inv.grew {W0 w w' : World} {g cap Bm k N : Nat} {L l : List Int} {D : DataW Unit} (h : Inv W0 w g cap Bm k N L D) (hg : Grew g g cap N (bv L) l w w') : Inv W0 w' g cap Bm k (N + l.length) (L ++ l) D where
  len := by rw [List.length_append, h.len]
  row := by rw [bv_app]; exact hg.1
  map := h.map.kept hg.2 (by have := h.ne; simp; omega)
  below := h.below.grown hg.2 (by have := h.below.size; have := h.sz; omega) (fun j hj => by cases hj; exact Nat.le_refl _)
  ne := h.ne
  sz := h.sz

/-- the append of an integer operand, by the state -/
theorem appI {W0 w : World} {g cap Bm k N : Nat} {L : List Int} {D : DataW Unit} (v : Int) (wide : Bool) (h : Inv W0 w g cap Bm k N L D) (hfit : N + 5 ≤ cap) (h0 : -2147483648 ≤ v) (h1 : v ≤ 2147483647) :
    Calls Try.prog 17 #[.slice (some ⟨g, 0, none⟩) N cap, .int .i32 v, .bool wide] w fun e w' => ∃ N1, e = .returned (.slice (some ⟨g, 0, none⟩) N1 cap) ∧ N1 ≤ N + 5 ∧ Inv W0 w' g cap Bm k N1 (L ++ encL v wide) D :=
  (appendInt_calls g N cap g (bv L) v wide w h.row hfit h0 h1).mono fun e w' ⟨he, hg⟩ => ⟨_, he, Nat.add_le_add_left (encL_length v wide) N, h.grew hg⟩

/-- the mode of the k-th item -/
def mo (c2 : Nat → Int) (len2 k : Nat) : Int := if k < len2 then c2 k else 0

theorem below_grown {w w' : World} (h : Below w.heap.size w w') : w.grownBy w' none := ⟨h.os, h.tape, h.output, h.size, fun k hk _ => h.block k hk⟩

/-- 'ZZReadDict' at what the law has written -/
theorem call_dict {W0 wr : World} {g cap Bm k N : Nat} {c0 c1 m : Nat → Int} {D : DataW Unit} (h : Inv W0 wr g cap Bm k N (toks c0 c1 m k).flatten D) (hk : k ≤ 65536) (hcap : 20 * k = cap) (hv : ∀ j, j < k → -2147483648 ≤ c1 j ∧ c1 j ≤ 2147483647) :
    Calls Try.prog 18 #[.slice (some ⟨g, 0, none⟩) N cap] wr fun e w' => e = .returned (.map (some wr.heap.size)) ∧ w'.ownsMap Try.prog 3 (plainElem Try.prog 3) wr.heap.size (5 * k) (dictD (puts c0 c1 m k)) ∧ Below wr.heap.size wr w' := by
  obtain ⟨hlen, hrow, _, _, _, _⟩ := h
  have hl := toks_length c0 c1 m k
  subst hlen
  have hgl := ownsRow_lt hrow
  refine (zzReadDict_calls g cap (toks c0 c1 m k) wr (toks_valid c0 c1 m k) (by omega) (by omega) (by omega) (fun j hj => ?_) hgl).mono ?_
  · rw [hrow.cellAt j (by omega)]
    simp only [bv, List.getElem?_map]
    rw [List.getD, List.getElem?_eq_getElem hj]
    rfl
  · rintro e w' ⟨he, hm, hb⟩
    rw [toks_st c0 c1 m k hv] at hm
    exact ⟨he, hm.mono hl.2, hb⟩

/-- the two look-ups of one key give one element -/
theorem looks {w : World} {Bg Bm n1 n2 : Nat} {D : DataW Unit} (hg : w.ownsMap Try.prog 3 (plainElem Try.prog 3) Bg n1 D) (he : w.ownsMap Try.prog 3 (plainElem Try.prog 3) Bm n2 D) (q : Int) (h0 : 0 ≤ q) (h1 : q ≤ 1455) (hh : Maps.has D (.int .i64 q) = true) :
    ∃ c : Int, (Instr.lookup 37 (.map (some Bg)) (.int .i64 q) true).run Try.prog w = .ok (.tuple #[.int .i64 c, .bool true]) w ∧ (Instr.lookup 37 (.map (some Bm)) (.int .i64 q) false).run Try.prog w = .ok (.int .i64 c) w := by
  have hkey : keyOf Try.prog 3 (.int .i64 q) = some (.int .i64 q) := keyOf_int_mk Try.underlying3 (WalkArith.wf_i64 (by omega))
  obtain ⟨v, ps, hrun, hv⟩ := hg.look_ok law3 Try.underlying37 (zero3 w) (plainElem_int Try.underlying3 (by decide)) hkey
  obtain ⟨c, rfl, hc, _⟩ := plainElem_int_inv Try.underlying3 hv
  obtain ⟨c', hrun', hat', _⟩ := he.lookup_int law3 Try.underlying37 Try.underlying3 (zero3 w) hkey
  have hcc : c = c' := by
    have h1 := congrArg Prod.fst hc
    simp only at h1
    rw [hat'] at h1
    simpa using h1.symm
  subst hcc
  rw [hh] at hrun
  exact ⟨c, hrun, hrun'⟩

set_option maxHeartbeats 8000000 in
set_option maxRecDepth 100000 in
theorem walk_in (a0 : Option Addr) (len0 cap0 : Nat) (a1 : Option Addr) (len1 cap1 : Nat) (a2 : Option Addr) (len2 cap2 : Nat) (c0 c1 c2 : Nat → Int) (w : World)
    (h0 : RowAt .u16 w a0 len0 c0) (h1 : RowAt .i32 w a1 len1 c1) (h2 : RowAt .u8 w a2 len2 c2) (hn0 : a0 = none → len0 = 0) (hn1 : a1 = none → len1 = 0) (hn2 : a2 = none → len2 = 0)
    (hr0 : ∀ j, j < len0 → 0 ≤ c0 j ∧ c0 j ≤ 65535) (hr1 : ∀ j, j < len1 → -2147483648 ≤ c1 j ∧ c1 j ≤ 2147483647) (hr2 : ∀ j, j < len2 → 0 ≤ c2 j ∧ c2 j ≤ 255)
    (hA : len0 + len1 + len2 ≤ 1048576) (hB : 2 * len0 + 4 * len1 + len2 ≤ 1048576) (hl0 : len0 ≤ 65536) (hl1 : len1 ≤ 65536) :
    Calls Try.prog 6 #[.slice a0 len0 cap0, .slice a1 len1 cap1, .slice a2 len2 cap2] w fun e w' => e = .returned (.bool true) ∧ Below w.heap.size w w' := by
  obtain ⟨i0, hi, hi0, hi1, hi2⟩ := info_parts info5
  have hmm := @run_makeMap Try.prog
  have H0 : Hid (RowAt .u16 w a0 len0 c0) := h0
  have H1 : Hid (RowAt .i32 w a1 len1 c1) := h1
  have H2 : Hid (RowAt .u8 w a2 len2 c2) := h2
  have HN : Hid ((a0 = none → len0 = 0) ∧ (a1 = none → len1 = 0) ∧ (a2 = none → len2 = 0)) := ⟨hn0, hn1, hn2⟩
  have HR : Hid ((∀ j, j < len0 → 0 ≤ c0 j ∧ c0 j ≤ 65535) ∧ (∀ j, j < len1 → -2147483648 ≤ c1 j ∧ c1 j ≤ 2147483647) ∧ (∀ j, j < len2 → 0 ≤ c2 j ∧ c2 j ≤ 255)) := ⟨hr0, hr1, hr2⟩
  have hle : decide (len0 + len1 + len2 ≤ 1048576) = true := decide_eq_true hA
  clear h0 h1 h2 hn0 hn1 hn2 hr0 hr1 hr2
  go_enter Try.func6, Try.ntmps6
  go_wp2_with fail
  refine (zz13 a0 len0 cap0 a1 len1 cap1 a2 len2 cap2 _ (by unfold maxLen; omega) (by unfold maxLen; omega) (by unfold maxLen; omega)).mono ?_
  rintro e w1 ⟨rfl, rfl⟩
  clear hle
  go_wp2_with fail
  refine (cloneU16_calls a0 len0 cap0 c0 _ H0.out (by omega)).mono ?_
  rintro e w1 ⟨v0, rfl, hcl⟩
  obtain ⟨af0, capf0, rfl, hrow0, hb1⟩ := clone_view hcl HN.out.1
  have H1' : Hid (RowAt .i32 w1 a1 len1 c1) := H1.out.below hb1
  have H2' : Hid (RowAt .u8 w1 a2 len2 c2) := H2.out.below hb1
  have HR0 : Hid (RowAt .u16 w1 af0 len0 c0) := hrow0
  have HB1 : Hid (Below w.heap.size w w1) := hb1
  clear hcl hb1 hrow0 H0 H1 H2
  go_wp2_with fail
  refine (cloneI32_calls a1 len1 cap1 c1 _ H1'.out (by omega)).mono ?_
  rintro e w2 ⟨v1, rfl, hcl⟩
  obtain ⟨af1, capf1, rfl, hrow1, hb2⟩ := clone_view hcl HN.out.2.1
  have H2'' : Hid (RowAt .u8 w2 a2 len2 c2) := H2'.out.below hb2
  have HR0' : Hid (RowAt .u16 w2 af0 len0 c0) := HR0.out.below hb2
  have HR1 : Hid (RowAt .i32 w2 af1 len1 c1) := hrow1
  have HB2 : Hid (Below w.heap.size w w2) := HB1.out.trans (hb2.mono HB1.out.size)
  clear hcl hb2 hrow1 H1' H2' HR0 HB1
  go_wp2_with fail
  refine (cloneBytes_calls a2 len2 cap2 c2 _ H2''.out (by omega)).mono ?_
  rintro e w3 ⟨v2, rfl, hcl⟩
  obtain ⟨af2, capf2, rfl, hrow2, hb3⟩ := clone_view hcl HN.out.2.2
  have HR0'' : Hid (RowAt .u16 w3 af0 len0 c0) := HR0'.out.below hb3
  have HR1' : Hid (RowAt .i32 w3 af1 len1 c1) := HR1.out.below hb3
  have HR2 : Hid (RowAt .u8 w3 af2 len2 c2) := hrow2
  have HB3 : Hid (Below w.heap.size w w3) := HB2.out.trans (hb3.mono HB2.out.size)
  clear hcl hb3 hrow2 H2'' HR0' HR1 HB2 HN
  go_upto_if 56 with (fail)
  go_cut [7] (fun v wx => ∃ n : Nat, n ≤ len0 ∧ n ≤ len1 ∧ v = .int .i64 n ∧ w3 = wx)
  case first =>
    by_cases hlt : (len1 : Int) < len0
    · go_wp2
      go_meet
      case rel => exact ⟨len1, by omega, by omega, rfl, rfl⟩
    · go_wp2
      go_meet
      case rel => exact ⟨len0, by omega, by omega, rfl, rfl⟩
  case rest =>
  obtain ⟨n, hnl0, hnl1, rfl, rfl⟩ := hcut
  go_upto_region 14 with (first | (at_make; refine wpList_make_own _ rfl (.const (.int .i64 0)) (.tmp 60) 24 rfl w3.heap.size 5 i0 (.int .u8 0) 1 Try.underlying24 hi hi0 hi1 .i64 .i64 _ (20 * n) rfl rfl (by omega) (by rw [hi2]; omega) (by unfold maxLen; omega) (Nat.le_refl _) ?_; intro w4 hown4 hgrow4))
  have hb4 : Below w3.heap.size w3 w4 := (Below.refl _ _).grown hgrow4 (Nat.le_refl _) (by simp)
  have hs4 : w3.heap.size < w4.heap.size := ownsRow_lt hown4
  have HI0 : Hid (Inv w3 (w4.alloc (.map #[] 0)) w3.heap.size (20 * n) w4.heap.size 0 0 (toks c0 c1 (mo c2 len2) 0).flatten (dictD (puts c0 c1 (mo c2 len2) 0))) :=
    ⟨rfl, hown4.alloc _, World.ownsMap_made _ _ _ _, hb4.alloc (by omega) _, hs4, rfl⟩
  clear hgrow4 hown4 hb4
  generalize hcap : 20 * n = cap at *
  have HCap : Hid (20 * n = cap) := hcap
  clear hcap
  go_wp2
  clear hmm
  go_loopw [8, 10] (fun b i wr => ∃ k N : Nat, k ≤ n ∧ i = .int .i64 k ∧ b = .slice (some ⟨w3.heap.size, 0, none⟩) N cap ∧ Inv w3 wr w3.heap.size cap w4.heap.size k N (toks c0 c1 (mo c2 len2) k).flatten (dictD (puts c0 c1 (mo c2 len2) k))) (fun _ i _ => n - (intOf i).toNat)
  case atStart => exact ⟨0, 0, Nat.zero_le _, rfl, rfl, HI0.out⟩
  case round =>
    obtain ⟨k, N, hk, rfl, rfl, hinv⟩ := hrel
    clear HI0
    by_cases hlt : k < n
    · obtain ⟨b0, o0, rfl, hb0, hc0⟩ : ∃ b off, af0 = some (⟨b, off, none⟩ : Addr) ∧ b < w3.heap.size ∧ ∀ j, j < len0 → w3.cell? ⟨b, off + j, none⟩ = some (.int .u16 (c0 j)) := by
        rcases HR0''.out with h | h
        · exact absurd h (by omega)
        · exact h
      obtain ⟨b1, o1, rfl, hb1, hc1⟩ : ∃ b off, af1 = some (⟨b, off, none⟩ : Addr) ∧ b < w3.heap.size ∧ ∀ j, j < len1 → w3.cell? ⟨b, off + j, none⟩ = some (.int .i32 (c1 j)) := by
        rcases HR1'.out with h | h
        · exact absurd h (by omega)
        · exact h
      have HC1 : Hid (∀ j, j < len1 → w3.cell? ⟨b1, o1 + j, none⟩ = some (.int .i32 (c1 j))) := hc1
      have hck : wr.cell? ⟨b0, o0 + k, none⟩ = some (.int .u16 (c0 k)) := by rw [hinv.below.cell (by exact hb0)]; exact hc0 k (by omega)
      have HInv : Hid (Inv w3 wr w3.heap.size cap w4.heap.size k N (toks c0 c1 (mo c2 len2) k).flatten (dictD (puts c0 c1 (mo c2 len2) k))) := hinv
      have hNlen : N ≤ 15 * k := by rw [← hinv.len]; exact (toks_length _ _ _ k).1
      have hfit : N + 20 ≤ cap := by have := HCap.out; omega
      have hkl0 : k < len0 := by omega
      have hkl1 : k < len1 := by omega
      have hk65 : k ≤ 65536 := by omega
      clear hc0 hc1 hinv
      go_wp2_with fail
      refine (dictOp_calls (c0 k) _ (HR.out.1 k hkl0).1 (HR.out.1 k hkl0).2).mono ?_
      rintro e w5 ⟨rfl, rfl⟩
      have hop := dop_isOp (c0 k)
      generalize hopE : dop (c0 k) = op at *
      have HOp : Hid (dop (c0 k) = op) := hopE
      have HIs : Hid (IsOp op) := hop
      clear hopE hop hck
      go_upto_if 76 with (fail)
      go_cut [12] (fun v wx => v = .int .i64 (mo c2 len2 k) ∧ wr = wx)
      case first =>
        by_cases h2 : k < len2
        · obtain ⟨b2, o2, rfl, hb2, hc2⟩ : ∃ b off, af2 = some (⟨b, off, none⟩ : Addr) ∧ b < w3.heap.size ∧ ∀ j, j < len2 → w3.cell? ⟨b, off + j, none⟩ = some (.int .u8 (c2 j)) := by
            rcases HR2.out with h | h
            · exact absurd h (by omega)
            · exact h
          have hck2 : wr.cell? ⟨b2, o2 + k, none⟩ = some (.int .u8 (c2 k)) := by rw [HInv.out.below.cell (by exact hb2)]; exact hc2 k h2
          obtain ⟨hm0, hm1⟩ := HR.out.2.2 k h2
          have HM : Hid (mo c2 len2 k = c2 k) := by unfold mo; rw [if_pos h2]; exact rfl
          clear hc2
          go_wp2
          go_meet
          case rel => exact ⟨by rw [HM.out], rfl⟩
        · have HM : Hid (mo c2 len2 k = 0) := by unfold mo; rw [if_neg h2]; exact rfl
          go_wp2
          go_meet
          case rel => exact ⟨by rw [HM.out], rfl⟩
      case rest =>
      obtain ⟨rfl, rfl⟩ := hcut
      have hmr : 0 ≤ mo c2 len2 k ∧ mo c2 len2 k ≤ 255 := by
        unfold mo
        split
        · exact HR.out.2.2 k (by assumption)
        · omega
      generalize hME : mo c2 len2 k = M at *
      have HME : Hid (mo c2 len2 k = M) := hME
      clear hME
      obtain ⟨hm0, hm1⟩ := hmr
      generalize hWE : (M / 3 % 2 == 1) = wide at *
      have HWE : Hid ((M / 3 % 2 == 1) = wide) := hWE
      generalize hLE : (toks c0 c1 (mo c2 len2) k).flatten = L0 at *
      have HLE : Hid ((toks c0 c1 (mo c2 len2) k).flatten = L0) := hLE
      generalize hDE : dictD (puts c0 c1 (mo c2 len2) k) = D0 at *
      have HDE : Hid (dictD (puts c0 c1 (mo c2 len2) k) = D0) := hDE
      clear hWE hLE hDE
      go_wp2_with fail
      rw [HWE.out]
      refine (appI (k : Int) false HInv.out (by omega) (by omega) (by omega)).mono ?_
      rintro e w5 ⟨N1, rfl, hN1, hinv5⟩
      have HI5 : Hid (Inv w3 w5 w3.heap.size cap w4.heap.size k N1 (L0 ++ encL (k : Int) false) D0) := hinv5
      have hs5 := hinv5.below.size
      clear hinv5 HInv
      go_upto_if 93 with (fail)
      go_cut [8] (fun b wx => ∃ N2 : Nat, b = .slice (some ⟨w3.heap.size, 0, none⟩) N2 cap ∧ N2 ≤ N1 + 3 ∧ Inv w3 wx w3.heap.size cap w4.heap.size k N2 (L0 ++ encL (k : Int) false ++ (realT (M % 3 == 1)).flatten) D0)
      case first =>
        by_cases hr : M % 3 = 1
        · have hrb : (M % 3 == 1) = true := by simp [hr]
          clear hr
          go_wp2_with (first | (at_builtin; refine wpList_append_fits _ rfl (.tmp 94) (.tmp 95) 24 rfl w3.heap.size 5 i0 1 Try.underlying24 hi hi1 w3.heap.size N1 cap _ rfl (HI5.out.row.alloc _) ⟨w5.heap.size, 0, none⟩ 3 3 (bv [30, 26, 47]) rfl rfl (cell_new _ _ _) (bv_cell _) (by omega) ?_; intro w6 hown6 hgrow6))
          have hg6 : Grew w3.heap.size w3.heap.size cap N1 (bv (L0 ++ encL (k : Int) false)) [30, 26, 47] w5 w6 := ⟨hown6, (World.grownBy_alloc w5 _ _).trans hgrow6⟩
          clear hown6 hgrow6
          go_meet
          case rel => exact ⟨_, rfl, Nat.le_refl _, by rw [hrb]; exact HI5.out.grew hg6⟩
        · have hrb : (M % 3 == 1) = false := by simp [hr]
          clear hr
          go_wp2
          go_meet
          case rel => exact ⟨_, rfl, by omega, by rw [hrb, show (realT false).flatten = [] from rfl, List.append_nil]; exact HI5.out⟩
      case rest =>
      obtain ⟨w6, hw6⟩ : ∃ w6, w6 = wc := ⟨_, rfl⟩
      subst hw6
      obtain ⟨N2, rfl, hN2, hinv6⟩ := hcut
      have hck1 : w6.cell? ⟨b1, o1 + k, none⟩ = some (.int .i32 (c1 k)) := by rw [hinv6.below.cell (by exact hb1)]; exact HC1.out k hkl1
      generalize hL2 : L0 ++ encL (k : Int) false ++ (realT (M % 3 == 1)).flatten = L2 at *
      have HL2 : Hid (L0 ++ encL (k : Int) false ++ (realT (M % 3 == 1)).flatten = L2) := hL2
      have HI6 : Hid (Inv w3 w6 w3.heap.size cap w4.heap.size k N2 L2 D0) := hinv6
      obtain ⟨hv0, hv1⟩ := HR.out.2.1 k hkl1
      generalize hvE : c1 k = v at *
      have HVE : Hid (c1 k = v) := hvE
      clear hinv6 HI5 hs5 hL2 hvE
      go_wp2_with fail
      refine (appI v wide HI6.out (by omega) hv0 hv1).mono ?_
      rintro e w7 ⟨N3, rfl, hN3, hinv7⟩
      have HI7 : Hid (Inv w3 w7 w3.heap.size cap w4.heap.size k N3 (L2 ++ encL v wide) D0) := hinv7
      clear hinv7 HI6 hck1
      go_upto_if 105 with (fail)
      go_cut [8] (fun b wx => ∃ N4 : Nat, b = .slice (some ⟨w3.heap.size, 0, none⟩) N4 cap ∧ N4 ≤ N3 + 3 ∧ Inv w3 wx w3.heap.size cap w4.heap.size k N4 (L2 ++ encL v wide ++ (realT (M % 3 == 2)).flatten) D0)
      case first =>
        by_cases hr : M % 3 = 2
        · have hrb : (M % 3 == 2) = true := by simp [hr]
          clear hr
          go_wp2_with (first | (at_builtin; refine wpList_append_fits _ rfl (.tmp 106) (.tmp 107) 24 rfl w3.heap.size 5 i0 1 Try.underlying24 hi hi1 w3.heap.size N3 cap _ rfl (HI7.out.row.alloc _) ⟨w7.heap.size, 0, none⟩ 3 3 (bv [30, 26, 47]) rfl rfl (cell_new _ _ _) (bv_cell _) (by omega) ?_; intro w8 hown8 hgrow8))
          have hg8 : Grew w3.heap.size w3.heap.size cap N3 (bv (L2 ++ encL v wide)) [30, 26, 47] w7 w8 := ⟨hown8, (World.grownBy_alloc w7 _ _).trans hgrow8⟩
          clear hown8 hgrow8
          go_meet
          case rel => exact ⟨_, rfl, Nat.le_refl _, by rw [hrb]; exact HI7.out.grew hg8⟩
        · have hrb : (M % 3 == 2) = false := by simp [hr]
          clear hr
          go_wp2
          go_meet
          case rel => exact ⟨_, rfl, by omega, by rw [hrb, show (realT false).flatten = [] from rfl, List.append_nil]; exact HI7.out⟩
      case rest =>
      obtain ⟨w8, hw8⟩ : ∃ w8, w8 = wc := ⟨_, rfl⟩
      subst hw8
      obtain ⟨N4, rfl, hN4, hinv8⟩ := hcut
      generalize hL4 : L2 ++ encL v wide ++ (realT (M % 3 == 2)).flatten = L4 at *
      have HL4 : Hid (L2 ++ encL v wide ++ (realT (M % 3 == 2)).flatten = L4) := hL4
      have HI8 : Hid (Inv w3 w8 w3.heap.size cap w4.heap.size k N4 L4 D0) := hinv8
      clear hinv8 HI7 hL4
      go_upto_if 110 with (fail)
      go_cut [8] (fun b wx => ∃ N5 : Nat, b = .slice (some ⟨w3.heap.size, 0, none⟩) N5 cap ∧ Inv w3 wx w3.heap.size cap w4.heap.size k N5 (L4 ++ opB op) D0)
      case first =>
        rcases HIs.out with ⟨ho0, ho1, ho2⟩ | ⟨ho0, ho1⟩
        · have hob : opB op = [op] := by unfold opB; rw [if_pos (by omega)]
          have HOB : Hid (opB op = [op]) := hob
          clear hob ho2
          go_wp2_with (first | (at_builtin; refine wpList_append_fits _ rfl (.tmp 111) (.tmp 114) 24 rfl w3.heap.size 5 i0 1 Try.underlying24 hi hi1 w3.heap.size N4 cap _ rfl (HI8.out.row.alloc _) ⟨w8.heap.size, 0, none⟩ 1 1 (bv [op]) rfl rfl (cell_new _ _ _) (bv_cell _) (by omega) ?_; intro w9 hown9 hgrow9))
          have hg9 : Grew w3.heap.size w3.heap.size cap N4 (bv L4) [op] w8 w9 := ⟨hown9, (World.grownBy_alloc w8 _ _).trans hgrow9⟩
          clear hown9 hgrow9
          go_meet
          case rel => exact ⟨_, rfl, by rw [HOB.out]; exact HI8.out.grew hg9⟩
        · have hob : opB op = [12, op - 1200] := by unfold opB; rw [if_neg (by omega)]
          have HOB : Hid (opB op = [12, op - 1200]) := hob
          clear hob
          go_wp2_with (first | (at_builtin; refine wpList_append_fits _ rfl (.tmp 116) (.tmp 120) 24 rfl w3.heap.size 5 i0 1 Try.underlying24 hi hi1 w3.heap.size N4 cap _ rfl (HI8.out.row.alloc _) ⟨w8.heap.size, 0, none⟩ 2 2 (bv [12, op - 1200]) rfl rfl (cell_new _ _ _) (bv_cell _) (by omega) ?_; intro w9 hown9 hgrow9))
          have hg9 : Grew w3.heap.size w3.heap.size cap N4 (bv L4) [12, op - 1200] w8 w9 := ⟨hown9, (World.grownBy_alloc w8 _ _).trans hgrow9⟩
          clear hown9 hgrow9
          go_meet
          case rel => exact ⟨_, rfl, by rw [HOB.out]; exact HI8.out.grew hg9⟩
      case rest =>
      obtain ⟨w9, hw9⟩ : ∃ w9, w9 = wc := ⟨_, rfl⟩
      subst hw9
      obtain ⟨N5, rfl, hinv9⟩ := hcut
      have hck9 : w9.cell? ⟨b1, o1 + k, none⟩ = some (.int .i32 v) := by rw [hinv9.below.cell (by exact hb1), ← HVE.out]; exact HC1.out k hkl1
      have HI9 : Hid (Inv w3 w9 w3.heap.size cap w4.heap.size k N5 (L4 ++ opB op) D0) := hinv9
      clear hinv9 HI8
      go_upto_if 128 with (fail)
      go_cut [15] (fun u wx => u = .int .i64 (want v M) ∧ w9 = wx)
      case first =>
        by_cases hr : M % 3 = 2
        · have hrb : (M % 3 == 2) = true := by simp [hr]
          have HW : Hid (want v M = 0) := by unfold want; rw [hrb]; exact rfl
          clear hr
          go_wp2
          go_meet
          case rel => exact ⟨by rw [HW.out], rfl⟩
        · have hrb : (M % 3 == 2) = false := by simp [hr]
          have HW : Hid (want v M = v) := by unfold want; rw [hrb]; exact rfl
          clear hr
          go_wp2
          go_meet
          case rel => exact ⟨by rw [HW.out], rfl⟩
      case rest =>
      obtain ⟨rfl, rfl⟩ := hcut
      have hwr : -2147483648 ≤ want v M ∧ want v M ≤ 2147483647 := by unfold want; split <;> omega
      generalize hwE : want v M = wv at *
      have HWv : Hid (want v M = wv) := hwE
      obtain ⟨hw0, hw1⟩ := hwr
      have hopr : 0 ≤ op ∧ op ≤ 1455 := by rcases HIs.out with ⟨h0, h1, _⟩ | ⟨h0, h1⟩ <;> omega
      obtain ⟨hop0, hop1⟩ := hopr
      have hmap := HI9.out.map
      clear hwE hck9
      go_wp2_with (first | (at_mapUpdate; refine wpList_mapUpdate_own _ rfl _ _ _ 37 rfl 3 3 law3 Try.underlying37 _ w4.heap.size k _ rfl hmap (by unfold maxLen; omega) _ _ _ rfl rfl (keyOf_int_mk Try.underlying3 (WalkArith.wf_i64 (by omega))) _ [] (plainElem_int Try.underlying3 (WalkArith.wf_i64 (by omega))) ?_; intro w10 hown10 hgrow10))
      have hL : (toks c0 c1 (mo c2 len2) (k + 1)).flatten = L4 ++ opB op := by
        simp only [toks, item, List.flatten_append, List.flatten_cons, List.flatten_nil, List.append_nil]
        rw [HLE.out, HME.out, HWE.out, HVE.out, HOp.out, ← HL4.out, ← HL2.out]
        simp only [List.append_assoc]
      have hD : dictD (puts c0 c1 (mo c2 len2) (k + 1)) = D0.put (.int .i64 op) (.lit (.int .i64 wv)) := by
        simp only [puts]
        rw [dictD_snoc, HDE.out, HME.out, HVE.out, HOp.out, HWv.out]
      have hI10 : Inv w3 w10 w3.heap.size cap w4.heap.size (k + 1) N5 (toks c0 c1 (mo c2 len2) (k + 1)).flatten (dictD (puts c0 c1 (mo c2 len2) (k + 1))) := by
        rw [hL, hD]
        exact ⟨HI9.out.len, HI9.out.row.kept hgrow10 (.inr (by simp [Value.ownBlock]; omega)), hown10, HI9.out.below.grown hgrow10 HI9.out.below.size (fun j hj => by cases hj; omega), HI9.out.ne, rfl⟩
      clear hL hD hown10 hgrow10 hmap
      go_roundw
      case rel => exact ⟨k + 1, N5, by omega, by go_num, rfl, hI10⟩
      case measure => simp [intOf]; omega
    · obtain rfl : k = n := by omega
      have HInv : Hid (Inv w3 wr w3.heap.size cap w4.heap.size k N (toks c0 c1 (mo c2 len2) k).flatten (dictD (puts c0 c1 (mo c2 len2) k))) := hinv
      clear hinv
      go_wp2_with fail
      refine (call_dict HInv.out (by omega) HCap.out (fun j hj => HR.out.2.1 j (by omega))).mono ?_
      rintro e w5 ⟨rfl, hgot, hb5⟩
      have hexp := HInv.out.map.kept (below_grown hb5) (by simp)
      have HB5 : Hid (Below w3.heap.size w3 w5) := HInv.out.below.trans (hb5.mono HInv.out.below.size)
      have HHas : Hid (∀ j, j < k → Maps.has (dictD (puts c0 c1 (mo c2 len2) k)) (.int .i64 (dop (c0 j))) = true) := fun j hj => has_puts c0 c1 (mo c2 len2) k j hj
      have HRow : Hid (RowAt .u16 w5 af0 len0 c0) := HR0''.out.below HB5.out
      have HBF : Hid (Below w.heap.size w w5) := HB3.out.trans (HB5.out.mono HB3.out.size)
      generalize dictD (puts c0 c1 (mo c2 len2) k) = D at *
      clear hb5 HInv HB5 HR0'' HR1' HR2 HB3 HCap
      go_wp2_with (first | (at_len; refine wpList_len_own _ rfl (.tmp 134) 37 rfl 3 3 Try.underlying37 _ _ _ D rfl hgot ?_) | (at_len; refine wpList_len_own _ rfl (.tmp 136) 37 rfl 3 3 Try.underlying37 _ _ _ D rfl hexp ?_))
      go_loop [17] (fun j => ∃ J : Nat, J ≤ k ∧ j = .int .i64 J) (fun j => k - (intOf j).toNat)
      case atStart => exact ⟨0, Nat.zero_le _, rfl⟩
      case round =>
        obtain ⟨J, hJ, rfl⟩ := hrel
        by_cases hJk : J < k
        · obtain ⟨b0, o0, rfl, hb0, hc0⟩ : ∃ b off, af0 = some (⟨b, off, none⟩ : Addr) ∧ b < w5.heap.size ∧ ∀ j, j < len0 → w5.cell? ⟨b, off + j, none⟩ = some (.int .u16 (c0 j)) := by
            rcases HRow.out with h | h
            · exact absurd h (by omega)
            · exact h
          have hck := hc0 J (by omega)
          have hJl : J < len0 := by omega
          have hopr : 0 ≤ dop (c0 J) ∧ dop (c0 J) ≤ 1455 := by rcases dop_isOp (c0 J) with ⟨h0, h1, _⟩ | ⟨h0, h1⟩ <;> omega
          obtain ⟨x, hx1, hx2⟩ := looks hgot hexp (dop (c0 J)) hopr.1 hopr.2 (HHas.out J hJk)
          clear hc0 hgot hexp
          go_wp2_with fail
          refine (dictOp_calls (c0 J) _ (HR.out.1 J hJl).1 (HR.out.1 J hJl).2).mono ?_
          rintro e w6 ⟨rfl, rfl⟩
          generalize dop (c0 J) = q at *
          go_wp2
          go_round
          case rel => exact ⟨J + 1, by omega, by go_num⟩
          case measure => simp [intOf]; omega
        · obtain rfl : J = k := by omega
          go_wp2
          go_ret
          exact ⟨rfl, HBF.out⟩

end Go.Proofs.Qxb6001184a.fnReadDictDecodesScript
