/-
  THE DECODER: bigEndian (23), readDict (22), by contracts.
-/
import Derived.Test.Qxb6001184aDict
import Derived.Maps.OwnSet
import Derived.Maps.OwnOps
import Derived.Laws.BitsLemmas
namespace Go.Proofs.Qxb6001184a.Dict
open Go.ChangeShapes Go.WideShapes Go.ChangeAt Go.RowKit Go.Maps
set_option linter.unusedVariables false

/-- n bytes from place s on, the first the greatest -/
def beV (c : Nat → Int) (s : Nat) : Nat → Int
  | 0 => 0
  | k + 1 => beV c s k * 256 + c (s + k)
theorem beV_succ (c : Nat → Int) (s k : Nat) : beV c s (k + 1) = beV c s k * 256 + c (s + k) := rfl
theorem beV_bounds (c : Nat → Int) (s k : Nat) (hk : k ≤ 4) (hc : ∀ j, j < k → 0 ≤ c (s + j) ∧ c (s + j) ≤ 255) : 0 ≤ beV c s k ∧ beV c s k < 256 ^ k := by
  induction k with
  | zero => simp [beV]
  | succ k ih =>
    have h1 := ih (by omega) (fun j hj => hc j (by omega))
    have h2 := hc k (by omega)
    rw [beV_succ, Int.pow_succ]
    omega

theorem wraps_i64 (n : Int) (h₀ : 0 ≤ n) (h₁ : n < 2 ^ 63) : IntKind.i64.wrap n = n := by rw [IntKind.wrap_i64]; omega
theorem or_i64 (a b : Int) (h0 : 0 ≤ a) (h1 : a < 16777216) (h2 : 0 ≤ b) (h3 : b ≤ 255) : bits .or .i64 (a * 256) b = a * 256 + b :=
  bits_join .i64 63 (by decide) wraps_i64 8 (a * 256) b (by omega) (by omega) (by omega) h2 (by omega) (by omega)

set_option maxHeartbeats 1000000 in
set_option maxRecDepth 100000 in
theorem bigEndian_calls (g len cap s n : Nat) (sI nI : Int) (hsI : sI = (s : Int)) (hnI : nI = (n : Int)) (c : Nat → Int) (w : World) (hn : n ≤ 4) (hn1 : 1 ≤ n) (hs : s + n ≤ len) (hlen : len ≤ 4194304)
    (hc : ∀ j, j < len → w.cell? ⟨g, j, none⟩ = some (.int .u8 (c j))) (hb : ∀ j, j < n → 0 ≤ c (s + j) ∧ c (s + j) ≤ 255) (hcap : len ≤ cap) :
    Calls Try.prog 23 #[.slice (some ⟨g, 0, none⟩) len cap, .int .i64 sI, .int .i64 nI] w fun e w' => e = .returned (.tuple #[.int .i64 (beV c s n), .bool true]) ∧ w = w' := by
  subst hsI hnI
  have HB : Hid (∀ j, j < n → 0 ≤ c (s + j) ∧ c (s + j) ≤ 255) := hb
  clear hb
  go_enter Try.func23, Try.ntmps23
  go_wp2
  go_loop [8, 28] (fun v i => ∃ k : Nat, k ≤ n ∧ v = .int .i64 (beV c s k) ∧ i = .int .i64 k) (fun _ i => n - (intOf i).toNat)
  case atStart => exact ⟨0, by omega, rfl, rfl⟩
  case round =>
    obtain ⟨k, hk, rfl, rfl⟩ := hrel
    have hbd := beV_bounds c s k (by omega) (fun j hj => HB.out j (by omega))
    have h3 : k < n → beV c s k < 16777216 := fun h => by
      have h1 : k = 0 ∨ k = 1 ∨ k = 2 ∨ k = 3 := by omega
      have h2 := hbd.2
      rcases h1 with rfl | rfl | rfl | rfl <;> simp at h2 <;> omega
    by_cases hlt : k < n
    · obtain ⟨hb1, hb2⟩ := HB.out k hlt
      have hck := hc (s + k) (by omega)
      have hvb := h3 hlt
      have hv0 := hbd.1
      have hsn : k < s + n - s := by omega
      have HOr : Hid (bits .or .i64 (beV c s k * 256) (c (s + k)) = beV c s (k + 1)) := or_i64 _ _ hv0 hvb hb1 hb2
      clear h3 hbd
      go_wp2
      go_round
      case rel => exact ⟨k + 1, by omega, by rw [HOr.out], by go_num⟩
      case measure => simp [intOf]; omega
    · obtain rfl : k = n := by omega
      clear h3 hbd
      go_wp2
      go_ret2
      exact ⟨rfl, rfl⟩
/-! ### Tokens: the bytes of one operator or operand -/
/-- a token of the DICTs that are spoken of -/
def ValidTok (t : List Int) : Prop :=
  (∃ b, t = [b] ∧ 0 ≤ b ∧ b ≤ 21 ∧ b ≠ 12) ∨ (∃ x, t = [12, x] ∧ 0 ≤ x ∧ x ≤ 255) ∨ (∃ a b, t = [28, a, b] ∧ 0 ≤ a ∧ a ≤ 255 ∧ 0 ≤ b ∧ b ≤ 255) ∨
  (∃ a b c d, t = [29, a, b, c, d] ∧ 0 ≤ a ∧ a ≤ 255 ∧ 0 ≤ b ∧ b ≤ 255 ∧ 0 ≤ c ∧ c ≤ 255 ∧ 0 ≤ d ∧ d ≤ 255) ∨ t = [30, 26, 47] ∨
  (∃ b, t = [b] ∧ 32 ≤ b ∧ b ≤ 246) ∨ (∃ b x, t = [b, x] ∧ 247 ≤ b ∧ b ≤ 250 ∧ 0 ≤ x ∧ x ≤ 255) ∨ (∃ b x, t = [b, x] ∧ 251 ≤ b ∧ b ≤ 254 ∧ 0 ≤ x ∧ x ≤ 255)

/-- the operand behind a token -/
def opdOf : List Int → Int
  | [b] => if b ≤ 21 then 0 else b - 139
  | [b, x] => if b = 12 then 0 else if b ≤ 250 then (b - 247) * 256 + x + 108 else -(b - 251) * 256 - x - 108
  | [b, x, y] => if b = 28 then IntKind.i16.wrap (x * 256 + y) else 0
  | [_, a, b, c, d] => wrap32 (((a * 256 + b) * 256 + c) * 256 + d)
  | _ => 0
/-- what a token puts, the operand being o -/
def putOf (o : Int) : List Int → List (Int × Int)
  | [b] => if b ≤ 21 then [(b, o)] else []
  | [b, x] => if b = 12 then [(1200 + x, o)] else []
  | _ => []
/-- operand and puts behind some tokens -/
def stAll (ts : List (List Int)) : Int × List (Int × Int) := ts.foldl (fun s t => (opdOf t, s.2 ++ putOf s.1 t)) (0, [])
theorem stAll_snoc (ts : List (List Int)) (t : List Int) : stAll (ts ++ [t]) = (opdOf t, (stAll ts).2 ++ putOf (stAll ts).1 t) := by simp [stAll]
/-- the map that puts make, as it is read -/
def dictD (ps : List (Int × Int)) : DataW Unit := ps.foldl (fun D p => D.put (.int .i64 p.1) (.lit (.int .i64 p.2))) (.map [])
theorem dictD_snoc (ps : List (Int × Int)) (k v : Int) : dictD (ps ++ [(k, v)]) = (dictD ps).put (.int .i64 k) (.lit (.int .i64 v)) := by simp [dictD]

/-- where the t-th token begins -/
def posT (ts : List (List Int)) (t : Nat) : Nat := (ts.take t).flatten.length
theorem take_tok (ts : List (List Int)) (t : Nat) (h : t < ts.length) : ts.take (t + 1) = ts.take t ++ [ts[t]] := List.take_succ_eq_append_getElem h
theorem posT_succ (ts : List (List Int)) (t : Nat) (h : t < ts.length) : posT ts (t + 1) = posT ts t + (ts[t]).length := by
  unfold posT; rw [take_tok ts t h]; simp only [List.flatten_append, List.length_append, List.flatten_cons, List.flatten_nil, List.append_nil]
theorem posT_le (ts : List (List Int)) (t : Nat) (h : t < ts.length) : posT ts t + (ts[t]).length ≤ ts.flatten.length := by
  have e : ts = ts.take t ++ [ts[t]] ++ ts.drop (t + 1) := by rw [← take_tok ts t h, List.take_append_drop]
  have := congrArg (fun l => l.flatten.length) e
  simp only [List.flatten_append, List.length_append] at this
  unfold posT
  simp at this ⊢
  omega
theorem tok_byte (ts : List (List Int)) (t j : Nat) (h : t < ts.length) (hj : j < (ts[t]).length) : ts.flatten.getD (posT ts t + j) 0 = (ts[t]).getD j 0 := by
  have e : ts = ts.take t ++ [ts[t]] ++ ts.drop (t + 1) := by rw [← take_tok ts t h, List.take_append_drop]
  have e2 : ts.flatten = (ts.take t).flatten ++ ts[t] ++ (ts.drop (t + 1)).flatten := by
    have := congrArg List.flatten e
    simpa only [List.flatten_append, List.flatten_cons, List.flatten_nil, List.append_nil] using this
  rw [e2, List.getD, List.getD, List.append_assoc, List.getElem?_append_right (by unfold posT; omega), List.getElem?_append_left (by unfold posT; omega)]
  congr 2
  unfold posT; omega

theorem opdOf_range (t : List Int) (h : ValidTok t) : -2147483648 ≤ opdOf t ∧ opdOf t ≤ 2147483647 := by
  rcases h with ⟨b, rfl, h⟩ | ⟨x, rfl, h⟩ | ⟨a, b, rfl, h⟩ | ⟨a, b, c, d, rfl, h⟩ | rfl | ⟨b, rfl, h⟩ | ⟨b, x, rfl, h⟩ | ⟨b, x, rfl, h⟩
  · simp only [opdOf]; split <;> omega
  · simp [opdOf]
  · simp only [opdOf, if_true, IntKind.wrap, IntKind.signed, IntKind.bits]; simp; split <;> omega
  · simp only [opdOf, wrap32]; omega
  · simp [opdOf]
  · simp only [opdOf]; split <;> omega
  · simp only [opdOf]; repeat' split
    all_goals omega
  · simp only [opdOf]; repeat' split
    all_goals omega

theorem wrap64_small (x : Int) (h0 : -2147483648 ≤ x) (h1 : x ≤ 2147483647) : wrap64 x = x := by unfold wrap64; omega

theorem law3 : Keyed Try.prog 3 := int_keyed Try.underlying3
theorem zero3 (w : World) : (zeroValue 3).run Try.prog w = .ok (.int .i64 0) w := by kernel_rfl

set_option maxHeartbeats 4000000 in
set_option maxRecDepth 100000 in
theorem readDict_calls (g cap : Nat) (ts : List (List Int)) (w : World) (hval : ∀ t ∈ ts, ValidTok t) (hn : ts.flatten.length ≤ 4194304) (htn : ts.length ≤ 4194304) (hcap : ts.flatten.length ≤ cap)
    (hc : ∀ j, j < ts.flatten.length → w.cell? ⟨g, j, none⟩ = some (.int .u8 (ts.flatten.getD j 0))) (hg : g < w.heap.size) :
    Calls Try.prog 22 #[.slice (some ⟨g, 0, none⟩) ts.flatten.length cap] w fun e w' =>
      e = .returned (.map (some w.heap.size)) ∧ w'.ownsMap Try.prog 3 (plainElem Try.prog 3) w.heap.size ts.length (dictD (stAll ts).2) ∧ Below w.heap.size w w' := by
  have hmm := @run_makeMap Try.prog
  have HVal : Hid (∀ t ∈ ts, ValidTok t) := hval
  have HC : Hid (∀ j, j < ts.flatten.length → w.cell? ⟨g, j, none⟩ = some (.int .u8 (ts.flatten.getD j 0))) := hc
  clear hval hc
  generalize hN : ts.flatten.length = N at *
  have HN : Hid (ts.flatten.length = N) := hN
  clear hN
  go_enter Try.func22, Try.ntmps22
  go_wp2
  clear hmm
  go_loopw [4, 5] (fun o i wr => ∃ t : Nat, t ≤ ts.length ∧ o = .int .i64 (stAll (ts.take t)).1 ∧ (-2147483648 ≤ (stAll (ts.take t)).1 ∧ (stAll (ts.take t)).1 ≤ 2147483647) ∧ i = .int .i64 (posT ts t) ∧ wr.ownsMap Try.prog 3 (plainElem Try.prog 3) w.heap.size t (dictD (stAll (ts.take t)).2) ∧ Below w.heap.size w wr) (fun _ i _ => N - (intOf i).toNat)
  case atStart => exact ⟨0, Nat.zero_le _, rfl, by simp [stAll], rfl, World.ownsMap_made _ _ _ _, (Below.refl _ _).alloc (Nat.le_refl _) _⟩
  case round =>
    obtain ⟨t, ht, rfl, hor, rfl, hown, hb⟩ := hrel
    by_cases hlt : t < ts.length
    · have hv := HVal.out _ (List.getElem_mem hlt)
      have hrng := opdOf_range _ hv
      have hps := posT_succ ts t hlt
      have hpl := posT_le ts t hlt
      have hst : stAll (ts.take (t + 1)) = (opdOf ts[t], (stAll (ts.take t)).2 ++ putOf (stAll (ts.take t)).1 ts[t]) := by rw [take_tok ts t hlt, stAll_snoc]
      obtain ⟨cc, hc0⟩ : ∃ cc : Nat → Int, ∀ j, cc j = ts.flatten.getD j 0 := ⟨_, fun _ => rfl⟩
      have hcc : ∀ j, j < (ts[t]).length → cc (posT ts t + j) = (ts[t]).getD j 0 := fun j hj => by rw [hc0]; exact tok_byte ts t j hlt hj
      have HCr : Hid (∀ j, j < N → wr.cell? ⟨g, j, none⟩ = some (.int .u8 (cc j))) := by
        intro j hj
        rw [hb.cell (by exact hg), hc0]
        exact HC.out j hj
      clear hc0
      rw [HN.out] at hpl
      generalize ts[t] = tok at *
      generalize hP : posT ts t = P at *
      generalize hO : (stAll (ts.take t)).1 = o at *
      generalize hS : (stAll (ts.take t)).2 = ps at *
      clear hP hO hS
      obtain ⟨ho1, ho2⟩ := hor
      have HCc : Hid (∀ j, j < tok.length → cc (P + j) = tok.getD j 0) := hcc
      have HSt0 : Hid (stAll (ts.take (t + 1)) = (opdOf tok, ps ++ putOf o tok)) := hst
      have HPs : Hid (posT ts (t + 1) = P + tok.length) := hps
      have HRg : Hid (-2147483648 ≤ opdOf tok ∧ opdOf tok ≤ 2147483647) := hrng
      clear hcc hst hps hrng
      rcases hv with ⟨b, rfl, hb0, hb1, hb2⟩ | ⟨x, rfl, hx0, hx1⟩ | ⟨a, b, rfl, ha0, ha1, hb0, hb1⟩ | ⟨a, b, c, d, rfl, ha0, ha1, hb0, hb1, hc0, hc1, hd0, hd1⟩ | rfl | ⟨b, rfl, hb0, hb1⟩ | ⟨b, x, rfl, hb0, hb1, hx0, hx1⟩ | ⟨b, x, rfl, hb0, hb1, hx0, hx1⟩
      · -- an operator of one byte
        have hpl1 : P + 1 ≤ N := hpl
        have hc0 : wr.cell? ⟨g, P, none⟩ = some (.int .u8 b) := by rw [HCr.out P (by omega)]; have := HCc.out 0 (by simp); simp at this; rw [this]
        have hst' : stAll (ts.take (t + 1)) = (0, ps ++ [(b, o)]) := by rw [HSt0.out]; simp [opdOf, putOf, hb1]
        have HSt : Hid (stAll (ts.take (t + 1)) = (0, ps ++ [(b, o)])) := hst'
        have hb12 : (b == 12) = false := by simp [hb2]
        clear hst' hpl
        go_wp2_with (first | (at_mapUpdate; refine wpList_mapUpdate_own _ rfl _ _ _ 37 rfl 3 3 law3 Try.underlying37 _ w.heap.size t _ rfl hown (by unfold maxLen; omega) _ _ _ rfl rfl (keyOf_int_mk Try.underlying3 (WalkArith.wf_i64 (by omega))) _ [] (plainElem_int Try.underlying3 (WalkArith.wf_i64 (by omega))) ?_; intro w1 hown1 hgrow1))
        have hb1' : Below w.heap.size w w1 := hb.grown hgrow1 hb.size (fun j hj => by cases hj; exact Nat.le_refl _)
        go_roundw
        case rel => exact ⟨t + 1, by omega, by rw [HSt.out], by rw [HSt.out]; simp, by rw [HPs.out]; go_num, by rw [HSt.out, dictD_snoc]; exact hown1, hb1'⟩
        case measure => simp [intOf]; omega
      · -- an operator of two bytes
        have hpl1 : P + 2 ≤ N := hpl
        have hc0 : wr.cell? ⟨g, P, none⟩ = some (.int .u8 12) := by rw [HCr.out P (by omega)]; have := HCc.out 0 (by simp); simp at this; rw [this]
        have hc1 : wr.cell? ⟨g, P + 1, none⟩ = some (.int .u8 x) := by rw [HCr.out (P + 1) (by omega)]; have := HCc.out 1 (by simp); simp at this; rw [this]
        have hst' : stAll (ts.take (t + 1)) = (0, ps ++ [(1200 + x, o)]) := by rw [HSt0.out]; simp [opdOf, putOf]
        have HSt : Hid (stAll (ts.take (t + 1)) = (0, ps ++ [(1200 + x, o)])) := hst'
        clear hst' hpl
        go_wp2_with (first | (at_mapUpdate; refine wpList_mapUpdate_own _ rfl _ _ _ 37 rfl 3 3 law3 Try.underlying37 _ w.heap.size t _ rfl hown (by unfold maxLen; omega) _ _ _ rfl rfl (keyOf_int_mk Try.underlying3 (WalkArith.wf_i64 (by omega))) _ [] (plainElem_int Try.underlying3 (WalkArith.wf_i64 (by omega))) ?_; intro w1 hown1 hgrow1))
        have hb1' : Below w.heap.size w w1 := hb.grown hgrow1 hb.size (fun j hj => by cases hj; exact Nat.le_refl _)
        go_roundw
        case rel => exact ⟨t + 1, by omega, by rw [HSt.out], by rw [HSt.out]; simp, by rw [HPs.out]; go_num, by rw [HSt.out, dictD_snoc]; exact hown1, hb1'⟩
        case measure => simp [intOf]; omega
      · -- two bytes behind 28
        have hpl1 : P + 3 ≤ N := hpl
        have hc0 : wr.cell? ⟨g, P, none⟩ = some (.int .u8 28) := by rw [HCr.out P (by omega)]; have := HCc.out 0 (by simp); simp at this; rw [this]
        have e1 : cc (P + 1) = a := by have := HCc.out 1 (by simp); simpa using this
        have e2 : cc (P + 2) = b := by have := HCc.out 2 (by simp); simpa using this
        have hbe : beV cc (P + 1) 2 = a * 256 + b := by simp [beV, Nat.add_assoc, e1, e2]
        have HBE : Hid (beV cc (P + 1) 2 = a * 256 + b) := hbe
        have HBd : Hid (∀ j, j < 2 → 0 ≤ cc (P + 1 + j) ∧ cc (P + 1 + j) ≤ 255) := by
          intro j hj
          rcases (show j = 0 ∨ j = 1 by omega) with rfl | rfl
          · rw [Nat.add_zero, e1]; omega
          · rw [Nat.add_assoc, e2]; omega
        have hst' : stAll (ts.take (t + 1)) = (IntKind.i16.wrap (a * 256 + b), ps) := by rw [HSt0.out]; simp [opdOf, putOf]
        have HSt : Hid (stAll (ts.take (t + 1)) = (IntKind.i16.wrap (a * 256 + b), ps)) := hst'
        have hmono := hown.mono (Nat.le_succ t)
        clear hst' hpl e1 e2 hbe hown
        go_wp2_with fail
        refine (bigEndian_calls g N cap (P + 1) 2 _ _ (by omega) (by omega) cc _ (by omega) (by omega) (by omega) hn HCr.out HBd.out hcap).mono ?_
        rintro e w1 ⟨rfl, rfl⟩
        rw [HBE.out]
        go_wp2
        have hr : -2147483648 ≤ IntKind.i16.wrap (a * 256 + b) ∧ IntKind.i16.wrap (a * 256 + b) ≤ 2147483647 := by have := HRg.out; simpa [opdOf] using this
        go_roundw
        case rel => exact ⟨t + 1, by omega, by rw [HSt.out, wrap64_small _ hr.1 hr.2], by rw [HSt.out]; exact hr, by rw [HPs.out]; go_num, by rw [HSt.out]; exact hmono, hb⟩
        case measure => simp [intOf]; omega
      · -- four bytes behind 29
        have hpl1 : P + 5 ≤ N := hpl
        have hc0 : wr.cell? ⟨g, P, none⟩ = some (.int .u8 29) := by rw [HCr.out P (by omega)]; have := HCc.out 0 (by simp); simp at this; rw [this]
        have e1 : cc (P + 1) = a := by have := HCc.out 1 (by simp); simpa using this
        have e2 : cc (P + 2) = b := by have := HCc.out 2 (by simp); simpa using this
        have e3 : cc (P + 3) = c := by have := HCc.out 3 (by simp); simpa using this
        have e4 : cc (P + 4) = d := by have := HCc.out 4 (by simp); simpa using this
        have hbe : beV cc (P + 1) 4 = ((a * 256 + b) * 256 + c) * 256 + d := by simp [beV, Nat.add_assoc, e1, e2, e3, e4]
        have HBE : Hid (beV cc (P + 1) 4 = ((a * 256 + b) * 256 + c) * 256 + d) := hbe
        have HBd : Hid (∀ j, j < 4 → 0 ≤ cc (P + 1 + j) ∧ cc (P + 1 + j) ≤ 255) := by
          intro j hj
          rcases (show j = 0 ∨ j = 1 ∨ j = 2 ∨ j = 3 by omega) with rfl | rfl | rfl | rfl
          · rw [Nat.add_zero, e1]; omega
          · rw [Nat.add_assoc, e2]; omega
          · rw [Nat.add_assoc, e3]; omega
          · rw [Nat.add_assoc, e4]; omega
        have hst' : stAll (ts.take (t + 1)) = (wrap32 (((a * 256 + b) * 256 + c) * 256 + d), ps) := by rw [HSt0.out]; simp [opdOf, putOf]
        have HSt : Hid (stAll (ts.take (t + 1)) = (wrap32 (((a * 256 + b) * 256 + c) * 256 + d), ps)) := hst'
        have hmono := hown.mono (Nat.le_succ t)
        clear hst' hpl e1 e2 e3 e4 hbe hown
        go_wp2_with fail
        refine (bigEndian_calls g N cap (P + 1) 4 _ _ (by omega) (by omega) cc _ (by omega) (by omega) (by omega) hn HCr.out HBd.out hcap).mono ?_
        rintro e w1 ⟨rfl, rfl⟩
        rw [HBE.out]
        go_wp2
        have hr : -2147483648 ≤ wrap32 (((a * 256 + b) * 256 + c) * 256 + d) ∧ wrap32 (((a * 256 + b) * 256 + c) * 256 + d) ≤ 2147483647 := by have := HRg.out; simpa [opdOf] using this
        go_roundw
        case rel => exact ⟨t + 1, by omega, by rw [HSt.out, wrap64_small _ hr.1 hr.2], by rw [HSt.out]; exact hr, by rw [HPs.out]; go_num, by rw [HSt.out]; exact hmono, hb⟩
        case measure => simp [intOf]; omega
      · -- a real
        have hpl1 : P + 3 ≤ N := hpl
        have hc0 : wr.cell? ⟨g, P, none⟩ = some (.int .u8 30) := by rw [HCr.out P (by omega)]; have := HCc.out 0 (by simp); simp at this; rw [this]
        have hc1 : wr.cell? ⟨g, P + 1, none⟩ = some (.int .u8 26) := by rw [HCr.out (P + 1) (by omega)]; have := HCc.out 1 (by simp); simp at this; rw [this]
        have hc2 : wr.cell? ⟨g, P + 2, none⟩ = some (.int .u8 47) := by rw [HCr.out (P + 2) (by omega)]; have := HCc.out 2 (by simp); simp at this; rw [this]
        have hst' : stAll (ts.take (t + 1)) = (0, ps) := by rw [HSt0.out]; simp [opdOf, putOf]
        have HSt : Hid (stAll (ts.take (t + 1)) = (0, ps)) := hst'
        have hmono := hown.mono (Nat.le_succ t)
        have k1 : bits .and .u8 26 15 = 10 := by decide
        have k2 : bits .and .u8 47 15 = 15 := by decide
        clear hst' hpl hown
        go_wp2
        refine wp_loop_rounds 2 ?_
        rw [rounds_succ]
        go_wp2
        rw [rounds_succ]
        go_wp2
        go_roundw
        case rel => exact ⟨t + 1, by omega, by rw [HSt.out], by rw [HSt.out]; simp, by rw [HPs.out]; go_num, by rw [HSt.out]; exact hmono, hb⟩
        case measure => simp [intOf]; omega
      · -- one byte
        have hpl1 : P + 1 ≤ N := hpl
        have hc0 : wr.cell? ⟨g, P, none⟩ = some (.int .u8 b) := by rw [HCr.out P (by omega)]; have := HCc.out 0 (by simp); simp at this; rw [this]
        have hst' : stAll (ts.take (t + 1)) = (b - 139, ps) := by rw [HSt0.out]; simp [opdOf, putOf, show ¬ b ≤ 21 by omega]
        have HSt : Hid (stAll (ts.take (t + 1)) = (b - 139, ps)) := hst'
        have hmono := hown.mono (Nat.le_succ t)
        have f1 : (b == 28) = false := by simp; omega
        have f2 : (b == 29) = false := by simp; omega
        have f3 : (b == 30) = false := by simp; omega
        clear hst' hpl hown
        go_wp2
        go_roundw
        case rel => exact ⟨t + 1, by omega, by rw [HSt.out], by rw [HSt.out]; simp; omega, by rw [HPs.out]; go_num, by rw [HSt.out]; exact hmono, hb⟩
        case measure => simp [intOf]; omega
      · -- two bytes, not negative
        have hpl1 : P + 2 ≤ N := hpl
        have hc0 : wr.cell? ⟨g, P, none⟩ = some (.int .u8 b) := by rw [HCr.out P (by omega)]; have := HCc.out 0 (by simp); simp at this; rw [this]
        have hc1 : wr.cell? ⟨g, P + 1, none⟩ = some (.int .u8 x) := by rw [HCr.out (P + 1) (by omega)]; have := HCc.out 1 (by simp); simp at this; rw [this]
        have hst' : stAll (ts.take (t + 1)) = ((b - 247) * 256 + x + 108, ps) := by rw [HSt0.out]; simp [opdOf, putOf, show ¬ b = 12 by omega, hb1]
        have HSt : Hid (stAll (ts.take (t + 1)) = ((b - 247) * 256 + x + 108, ps)) := hst'
        have hmono := hown.mono (Nat.le_succ t)
        have f1 : (b == 28) = false := by simp; omega
        have f2 : (b == 29) = false := by simp; omega
        have f3 : (b == 30) = false := by simp; omega
        clear hst' hpl hown
        go_wp2
        go_roundw
        case rel => exact ⟨t + 1, by omega, by rw [HSt.out], by rw [HSt.out]; simp; omega, by rw [HPs.out]; go_num, by rw [HSt.out]; exact hmono, hb⟩
        case measure => simp [intOf]; omega
      · -- two bytes, negative
        have hpl1 : P + 2 ≤ N := hpl
        have hc0 : wr.cell? ⟨g, P, none⟩ = some (.int .u8 b) := by rw [HCr.out P (by omega)]; have := HCc.out 0 (by simp); simp at this; rw [this]
        have hc1 : wr.cell? ⟨g, P + 1, none⟩ = some (.int .u8 x) := by rw [HCr.out (P + 1) (by omega)]; have := HCc.out 1 (by simp); simp at this; rw [this]
        have hst' : stAll (ts.take (t + 1)) = (-(b - 251) * 256 - x - 108, ps) := by rw [HSt0.out]; simp [opdOf, putOf, show ¬ b = 12 by omega, show ¬ b ≤ 250 by omega]
        have HSt : Hid (stAll (ts.take (t + 1)) = (-(b - 251) * 256 - x - 108, ps)) := hst'
        have hmono := hown.mono (Nat.le_succ t)
        have f1 : (b == 28) = false := by simp; omega
        have f2 : (b == 29) = false := by simp; omega
        have f3 : (b == 30) = false := by simp; omega
        clear hst' hpl hown
        go_wp2
        go_roundw
        case rel => exact ⟨t + 1, by omega, by rw [HSt.out], by rw [HSt.out]; simp; omega, by rw [HPs.out]; go_num, by rw [HSt.out]; exact hmono, hb⟩
        case measure => simp [intOf]; omega
    · obtain rfl : t = ts.length := by omega
      have hp : posT ts ts.length = N := by unfold posT; rw [List.take_length]; exact HN.out
      rw [hp]
      rw [List.take_length] at hown
      go_wp2
      go_ret
      exact ⟨rfl, hown, hb⟩
end Go.Proofs.Qxb6001184a.Dict
