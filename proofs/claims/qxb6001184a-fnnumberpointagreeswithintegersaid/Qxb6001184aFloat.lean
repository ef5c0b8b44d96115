/-
  PLAIN FACTS ON IEEE DOUBLES, no Go in sight: whole numbers below 2^53 are read, multiplied, added exactly; a quotient of two of them hangs on their ratio alone.
-/
import Ieee.Arith
namespace Go.Proofs.Qxb6001184a.Fl
open Ieee

theorem d_fb : double.fractionBits = 52 := rfl
theorem d_lp : double.leastPlace = -1074 := by decide
theorem d_bin : double.binade = 4503599627370496 := by decide
theorem d_inf : double.infRung = 9218868437227405312 := by decide
theorem d_sw : double.signWeight = 9223372036854775808 := by decide
theorem d_word (r : Nat) : double.word false r = r := rfl

/-- The word of a whole number below 2^53. -/
def encN (N : Nat) : Nat := if N = 0 then 0 else (N.log2 + 1022) * 4503599627370496 + N * 2 ^ (52 - N.log2)

theorem log2_le52 {N : Nat} (h0 : N ≠ 0) (h : N < 2 ^ 53) : N.log2 ≤ 52 := by
  have := (Nat.log2_lt h0 (k := 53)).2 h
  omega

theorem log2_mul_pow (N a : Nat) (h0 : N ≠ 0) : (N * 2 ^ a).log2 = N.log2 + a := by
  have h1 : N * 2 ^ a ≠ 0 := Nat.mul_ne_zero h0 (Nat.ne_of_gt (Nat.two_pow_pos a))
  have hlo := Nat.log2_self_le h0
  have hhi := Nat.lt_log2_self (n := N)
  apply Nat.le_antisymm
  · have : (N * 2 ^ a).log2 < N.log2 + a + 1 := by
      rw [Nat.log2_lt h1, show N.log2 + a + 1 = N.log2 + 1 + a by omega, Nat.pow_add]
      exact Nat.mul_lt_mul_of_pos_right hhi (Nat.two_pow_pos a)
    omega
  · rw [Nat.le_log2 h1, Nat.pow_add]
    exact Nat.mul_le_mul_right _ hlo

/-- the top 53 digits of a whole number below 2^53 -/
theorem top_bounds {N : Nat} (h0 : N ≠ 0) (h : N < 2 ^ 53) : 4503599627370496 ≤ N * 2 ^ (52 - N.log2) ∧ N * 2 ^ (52 - N.log2) < 9007199254740992 := by
  have hL := log2_le52 h0 h
  have hlo := Nat.log2_self_le h0
  have hhi := Nat.lt_log2_self (n := N)
  constructor
  · calc 4503599627370496 = 2 ^ N.log2 * 2 ^ (52 - N.log2) := by rw [← Nat.pow_add, show N.log2 + (52 - N.log2) = 52 by omega]
      _ ≤ _ := Nat.mul_le_mul_right _ hlo
  · calc N * 2 ^ (52 - N.log2) < 2 ^ (N.log2 + 1) * 2 ^ (52 - N.log2) := Nat.mul_lt_mul_of_pos_right hhi (Nat.two_pow_pos _)
      _ = 9007199254740992 := by rw [← Nat.pow_add, show N.log2 + 1 + (52 - N.log2) = 53 by omega]

theorem cut_zero (neg : Bool) (n : Nat) : Toward.even.cut neg n 0 = n := by
  simp [Toward.cut, Nat.mod_one]

theorem cut_exact (neg : Bool) (m d : Nat) (h0 : m ≠ 0) : Toward.even.cut neg (m * 2 ^ d) d = m := by
  have hl := log2_mul_pow m d h0
  have hm : min d ((m * 2 ^ d).log2 + 2) = d := by rw [hl]; omega
  have hp := Nat.two_pow_pos d
  simp only [Toward.cut, hm, Nat.one_shiftLeft]
  rw [Nat.mul_div_cancel _ hp, Nat.mul_mod_left]
  simp

/-- THE NEAREST WORD of a whole number below 2^53, however it is scaled. -/
theorem nearest_exact (N a : Nat) (h0 : N ≠ 0) (h : N < 2 ^ 53) : double.nearest false (N * 2 ^ a) (-(a : Int)) = encN N := by
  have hL := log2_le52 h0 h
  have hl := log2_mul_pow N a h0
  have h1 : N * 2 ^ a ≠ 0 := Nat.mul_ne_zero h0 (Nat.ne_of_gt (Nat.two_pow_pos a))
  have htop := top_bounds h0 h
  unfold Format.nearest
  rw [if_neg h1, hl, d_fb, d_lp, d_bin, d_inf]
  have hlast : max (-(a : Int) + ((N.log2 + a : Nat) : Int) - (52 : Nat)) (-1074) = (N.log2 : Int) - 52 := by omega
  simp only [hlast]
  have hkept : Toward.even.cut false ((N * 2 ^ a) <<< (-(a : Int) - ((N.log2 : Int) - 52)).toNat) (((N.log2 : Int) - 52) - -(a : Int)).toNat = N * 2 ^ (52 - N.log2) := by
    rcases Nat.le_total a (52 - N.log2) with ha | ha
    · rw [show (((N.log2 : Int) - 52) - -(a : Int)).toNat = 0 by omega, cut_zero, show (-(a : Int) - ((N.log2 : Int) - 52)).toNat = 52 - N.log2 - a by omega, Nat.shiftLeft_eq, Nat.mul_assoc, ← Nat.pow_add, show a + (52 - N.log2 - a) = 52 - N.log2 by omega]
    · rw [show (-(a : Int) - ((N.log2 : Int) - 52)).toNat = 0 by omega, Nat.shiftLeft_zero, show (((N.log2 : Int) - 52) - -(a : Int)).toNat = a - (52 - N.log2) by omega]
      have e : N * 2 ^ a = (N * 2 ^ (52 - N.log2)) * 2 ^ (a - (52 - N.log2)) := by rw [Nat.mul_assoc, ← Nat.pow_add, show 52 - N.log2 + (a - (52 - N.log2)) = a by omega]
      rw [e, cut_exact _ _ _ (by omega)]
  rw [hkept, d_word, show ((N.log2 : Int) - 52 - -1074).toNat = N.log2 + 1022 by omega]
  unfold encN
  rw [if_neg h0]
  omega

theorem nearest_zero (place : Int) : double.nearest false 0 place = 0 := rfl

theorem nearest_N (N a : Nat) (h : N < 2 ^ 53) : double.nearest false (N * 2 ^ a) (-(a : Int)) = encN N := by
  rcases Nat.eq_zero_or_pos N with rfl | h0
  · rw [Nat.zero_mul, nearest_zero]; rfl
  · exact nearest_exact N a (by omega) h

/-- WHAT THE WORD OF A WHOLE NUMBER IS READ AS. -/
theorem read_pos (N : Nat) (h0 : N ≠ 0) (h : N < 2 ^ 53) : double.read (encN N) = .number false (N * 2 ^ (52 - N.log2)) (-((52 - N.log2 : Nat) : Int)) := by
  have hL := log2_le52 h0 h
  have htop := top_bounds h0 h
  unfold encN
  rw [if_neg h0]
  generalize hT : N * 2 ^ (52 - N.log2) = T at *
  unfold Format.read
  rw [d_sw, d_bin, d_inf, d_lp]
  have h1 : ((N.log2 + 1022) * 4503599627370496 + T) % 9223372036854775808 = (N.log2 + 1022) * 4503599627370496 + T := Nat.mod_eq_of_lt (by omega)
  have h2 : ((N.log2 + 1022) * 4503599627370496 + T) / 9223372036854775808 = 0 := Nat.div_eq_of_lt (by omega)
  simp only [h1, h2]
  rw [if_neg (by omega), if_pos (by omega)]
  have h3 : ((N.log2 + 1022) * 4503599627370496 + T) / 4503599627370496 = N.log2 + 1023 := by omega
  have h4 : ((N.log2 + 1022) * 4503599627370496 + T) % 4503599627370496 = T - 4503599627370496 := by omega
  have h5 : 4503599627370496 + (T - 4503599627370496) = T := by omega
  have h6 : (-1074 : Int) + ((N.log2 + 1023 - 1 : Nat) : Int) = -((52 - N.log2 : Nat) : Int) := by omega
  have h7 : ((0 : Nat) % 2 == 1) = false := rfl
  rw [h3, h4, h5, h6, h7]

theorem read_zero : double.read (encN 0) = .number false 0 (-1074) := by decide

theorem read_N (N : Nat) (h : N < 2 ^ 53) : ∃ a : Nat, double.read (encN N) = .number false (N * 2 ^ a) (-(a : Int)) := by
  rcases Nat.eq_zero_or_pos N with rfl | h0
  · obtain ⟨a, ha⟩ : ∃ a : Nat, a = 1074 := ⟨_, rfl⟩
    exact ⟨a, by rw [read_zero, Nat.zero_mul, ha]; rfl⟩
  · exact ⟨_, read_pos N (by omega) h⟩

theorem mul_N (N M : Nat) (h : N * M < 2 ^ 53) (hN : N < 2 ^ 53) (hM : M < 2 ^ 53) : double.mul (encN N) (encN M) = some (encN (N * M)) := by
  obtain ⟨a, ha⟩ := read_N N hN
  obtain ⟨b, hb⟩ := read_N M hM
  unfold Format.mul
  rw [ha, hb]
  simp only [Datum.product, Option.map_some, Format.write, Bool.xor_false]
  rw [← nearest_N (N * M) (a + b) h, Nat.pow_add]
  congr 2
  · simp only [Nat.mul_assoc, Nat.mul_left_comm]
  · omega

theorem add_N (N M : Nat) (h : N + M < 2 ^ 53) : double.add (encN N) (encN M) = some (encN (N + M)) := by
  obtain ⟨a, ha⟩ := read_N N (by omega)
  obtain ⟨b, hb⟩ := read_N M (by omega)
  unfold Format.add
  rw [ha, hb]
  have key : ∃ m : Nat, min (-(a : Int)) (-(b : Int)) = -(m : Int) ∧ a ≤ m ∧ b ≤ m := ⟨max a b, by omega, by omega, by omega⟩
  obtain ⟨m, hm, ham, hbm⟩ := key
  have e1 : N * 2 ^ a * 2 ^ (m - a) = N * 2 ^ m := by rw [Nat.mul_assoc, ← Nat.pow_add, show a + (m - a) = m by omega]
  have e2 : M * 2 ^ b * 2 ^ (m - b) = M * 2 ^ m := by rw [Nat.mul_assoc, ← Nat.pow_add, show b + (m - b) = m by omega]
  have e3 : N * 2 ^ m + M * 2 ^ m = (N + M) * 2 ^ m := by rw [Nat.add_mul]
  have t1 : (-(a : Int) - -(m : Int)).toNat = m - a := by omega
  have t2 : (-(b : Int) - -(m : Int)).toNat = m - b := by omega
  simp only [Datum.sum, hm, t1, t2, signed, Nat.shiftLeft_eq, e1, e2, Option.map_some, Format.write]
  rw [← nearest_N (N + M) m h]
  have hs : (((N * 2 ^ m : Nat) : Int) + ((M * 2 ^ m : Nat) : Int)) = (((N + M) * 2 ^ m : Nat) : Int) := by rw [← e3]; omega
  simp only [Bool.false_eq_true, if_false, hs, Int.natAbs_natCast, Bool.and_false]
  congr 2
  split
  · rfl
  · exact decide_eq_false (by have := Int.natCast_nonneg ((N + M) * 2 ^ m); omega)

/-- A / B to the nearest whole number, ties to even. -/
def rne (A B : Nat) : Nat := A / B + (decide (B < 2 * (A % B)) || (B == 2 * (A % B) && A / B % 2 == 1)).toNat

theorem rne_scale (c A B : Nat) (hc : 0 < c) : rne (c * A) (c * B) = rne A B := by
  unfold rne
  rw [Nat.mul_div_mul_left _ _ hc, Nat.mul_mod_mul_left]
  have e1 : decide (c * B < 2 * (c * (A % B))) = decide (B < 2 * (A % B)) := by
    rw [Nat.mul_left_comm, decide_eq_decide]
    exact Nat.mul_lt_mul_left hc
  have e2 : (c * B == 2 * (c * (A % B))) = (B == 2 * (A % B)) := by
    rw [Nat.mul_left_comm, Bool.eq_iff_iff, beq_iff_eq, beq_iff_eq]
    exact Nat.mul_right_inj (by omega)
  rw [e1, e2]

theorem rne_cross (A1 B1 A2 B2 : Nat) (h1 : 0 < B1) (h2 : 0 < B2) (h : A1 * B2 = A2 * B1) : rne A1 B1 = rne A2 B2 := by
  rw [← rne_scale B2 A1 B1 h2, ← rne_scale B1 A2 B2 h1, Nat.mul_comm B2 A1, Nat.mul_comm B1 A2, h, Nat.mul_comm B1 B2]

/-- ROUNDING A TRUNCATED QUOTIENT WITH A STICKY DIGIT rounds the quotient. -/
theorem cut_sticky (D n d : Nat) (hn : 0 < n) (hd : 2 ≤ d) (hmin : d ≤ (2 * (D / n) + (D % n != 0).toNat).log2 + 2) :
    Toward.even.cut false (2 * (D / n) + (D % n != 0).toNat) d = rne D (n * 2 ^ (d - 1)) := by
  obtain ⟨g, hg⟩ : ∃ g, g = 2 ^ (d - 2) := ⟨_, rfl⟩
  have hg0 : 0 < g := by rw [hg]; exact Nat.two_pow_pos _
  have e4 : 2 ^ d = 4 * g := by rw [hg, show d = (d - 2) + 2 by omega, Nat.pow_add]; simp; omega
  have e2 : 2 ^ (d - 1) = 2 * g := by rw [hg, show d - 1 = (d - 2) + 1 by omega, Nat.pow_succ]; omega
  have hmm : min d ((2 * (D / n) + (D % n != 0).toNat).log2 + 2) = d := by omega
  simp only [Toward.cut, hmm, Nat.one_shiftLeft]
  rw [e4, e2]
  unfold rne
  have hr := Nat.mod_lt D hn
  have hq : D / (n * (2 * g)) = D / n / (2 * g) := (Nat.div_div_eq_div_mul _ _ _).symm
  have hm : D % (n * (2 * g)) = D % n + n * (D / n % (2 * g)) := Nat.mod_mul
  rw [hq, hm]
  generalize D / n = t at *
  generalize D % n = r at *
  have hu := Nat.mod_lt t (show 0 < 2 * g by omega)
  have hdm := Nat.div_add_mod t (2 * g)
  generalize htq : t / (2 * g) = q at *
  generalize htu : t % (2 * g) = u at *
  have hs : (r != 0).toNat = if r = 0 then 0 else 1 := by by_cases h : r = 0 <;> simp [h]
  have hs1 : (r != 0).toNat ≤ 1 := by rw [hs]; split <;> omega
  generalize hS : (r != 0).toNat = S at *
  have hlow : (2 * t + S) / (4 * g) = q := by
    rw [← hdm]
    have : 2 * (2 * g * q + u) + S = (2 * u + S) + 4 * g * q := by
      have k4 : 4 * g * q = 2 * (2 * g * q) := by rw [show 4 * g = 2 * (2 * g) by omega, Nat.mul_assoc]
      omega
    rw [this, Nat.add_mul_div_left _ _ (by omega), Nat.div_eq_of_lt (by omega)]; omega
  have hrest : (2 * t + S) % (4 * g) = 2 * u + S := by
    rw [← hdm]
    have : 2 * (2 * g * q + u) + S = (2 * u + S) + 4 * g * q := by
      have k4 : 4 * g * q = 2 * (2 * g * q) := by rw [show 4 * g = 2 * (2 * g) by omega, Nat.mul_assoc]
      omega
    rw [this, Nat.add_mul_mod_self_left, Nat.mod_eq_of_lt (by omega)]
  rw [hlow, hrest]
  have c1 : decide (4 * g < 2 * (2 * u + S)) = decide (n * (2 * g) < 2 * (r + n * u)) := by
    rw [decide_eq_decide]
    have k1 : n * (2 * g) = 2 * (n * g) := by rw [Nat.mul_left_comm]
    rw [k1]
    rcases Nat.lt_trichotomy u g with h | h | h
    · have := Nat.mul_le_mul_left n (show u + 1 ≤ g by omega)
      rw [Nat.mul_succ] at this
      omega
    · subst h
      rw [hs]; split <;> omega
    · have := Nat.mul_le_mul_left n (show g + 1 ≤ u by omega)
      rw [Nat.mul_succ] at this
      omega
  have c2 : (4 * g == 2 * (2 * u + S)) = (n * (2 * g) == 2 * (r + n * u)) := by
    rw [Bool.eq_iff_iff, beq_iff_eq, beq_iff_eq]
    have k1 : n * (2 * g) = 2 * (n * g) := by rw [Nat.mul_left_comm]
    rw [k1]
    rcases Nat.lt_trichotomy u g with h | h | h
    · have := Nat.mul_le_mul_left n (show u + 1 ≤ g by omega)
      rw [Nat.mul_succ] at this
      omega
    · subst h
      rw [hs]; split <;> omega
    · have := Nat.mul_le_mul_left n (show g + 1 ≤ u by omega)
      rw [Nat.mul_succ] at this
      omega
  rw [c1, c2]

/-- THE QUOTIENT OF TWO WHOLE NUMBERS below 2^53: its place e, and the ratio N 2^p / (M 2^q), which has 53 digits, rounded. -/
theorem div_pos (N M : Nat) (hN0 : N ≠ 0) (hM0 : M ≠ 0) (hN : N < 2 ^ 53) (hM : M < 2 ^ 53) :
    ∃ e p q : Nat, double.div (encN N) (encN M) = some (e * 4503599627370496 + rne (N * 2 ^ p) (M * 2 ^ q)) ∧ e + p = q + 1074 ∧ e ≤ 2000 ∧
      4503599627370496 * (M * 2 ^ q) ≤ N * 2 ^ p ∧ N * 2 ^ p < 9007199254740992 * (M * 2 ^ q) := by
  have htN := top_bounds hN0 hN
  have htM := top_bounds hM0 hM
  have hLN := log2_le52 hN0 hN
  have hLM := log2_le52 hM0 hM
  have hlogN : (N * 2 ^ (52 - N.log2)).log2 = 52 := by rw [log2_mul_pow _ _ hN0]; omega
  have hlogM : (M * 2 ^ (52 - M.log2)).log2 = 52 := by rw [log2_mul_pow _ _ hM0]; omega
  unfold Format.div
  rw [read_pos N hN0 hN, read_pos M hM0 hM, d_fb]
  generalize ha : 52 - N.log2 = a at *
  generalize hb : 52 - M.log2 = b at *
  have ha52 : a ≤ 52 := by omega
  have hb52 : b ≤ 52 := by omega
  clear ha hb hLN hLM
  have hm0 : M * 2 ^ b ≠ 0 := by omega
  simp only [Datum.quotient, if_neg hm0, hlogN, hlogM, Option.map_some, Format.write, Bool.xor_false, Nat.shiftLeft_eq, show 52 + 2 + 52 - 52 = 54 by omega]
  obtain ⟨n, hn⟩ : ∃ n, n = M * 2 ^ b := ⟨_, rfl⟩
  obtain ⟨D, hD⟩ : ∃ D, D = N * 2 ^ a * 2 ^ 54 := ⟨_, rfl⟩
  rw [← hn, ← hD]
  rw [← hn] at htM hm0
  have hn0 : 0 < n := by omega
  have hDlo : 9007199254740992 * n ≤ D := by
    have e54 : (2 : Nat) ^ 54 = 18014398509481984 := by decide
    rw [hD, e54]; omega
  have hDhi : D < 36028797018963968 * n := by
    have e54 : (2 : Nat) ^ 54 = 18014398509481984 := by decide
    rw [hD, e54]; omega
  have hqlo : 9007199254740992 ≤ D / n := (Nat.le_div_iff_mul_le hn0).2 hDlo
  have hqhi : D / n < 36028797018963968 := (Nat.div_lt_iff_lt_mul hn0).2 hDhi
  have hs1 : (D % n != 0).toNat ≤ 1 := Bool.toNat_le _
  have hmag0 : 2 * (D / n) + (D % n != 0).toNat ≠ 0 := by omega
  obtain ⟨G, hG⟩ : ∃ G, G = (2 * (D / n) + (D % n != 0).toNat).log2 := ⟨_, rfl⟩
  have hG54 : 54 ≤ G := by
    rw [hG, Nat.le_log2 hmag0]
    have e : (2 : Nat) ^ 54 = 18014398509481984 := by decide
    rw [e]; omega
  have hG55 : G ≤ 55 := by
    have : G < 56 := by
      rw [hG, Nat.log2_lt hmag0]
      have e : (2 : Nat) ^ 56 = 72057594037927936 := by decide
      rw [e]; omega
    omega
  have hGlo : 2 ^ G ≤ 2 * (D / n) + (D % n != 0).toNat := by rw [hG]; exact Nat.log2_self_le hmag0
  have hGhi : 2 * (D / n) + (D % n != 0).toNat < 2 ^ (G + 1) := by rw [hG]; exact Nat.lt_log2_self
  refine ⟨b + G + 967 - a, a + 54, b + (G - 53), ?_, by omega, by omega, ?_, ?_⟩
  · unfold Format.nearest
    rw [if_neg hmag0, ← hG, d_fb, d_lp, d_bin, d_inf]
    have hlast : max (-(a : Int) - -(b : Int) - ((54 : Nat) : Int) - 1 + (G : Int) - ((52 : Nat) : Int)) (-1074) = (b : Int) - a + G - 107 := by omega
    simp only [hlast]
    rw [show (-(a : Int) - -(b : Int) - ((54 : Nat) : Int) - 1 - ((b : Int) - a + G - 107)).toNat = 0 by omega, Nat.shiftLeft_zero,
      show (((b : Int) - a + G - 107) - (-(a : Int) - -(b : Int) - ((54 : Nat) : Int) - 1)).toNat = G - 52 by omega,
      cut_sticky D n (G - 52) hn0 (by omega) (by rw [← hG]; omega), d_word,
      show ((b : Int) - a + G - 107 - -1074).toNat = b + G + 967 - a by omega]
    have eA : N * 2 ^ (a + 54) = D := by rw [hD, Nat.mul_assoc, ← Nat.pow_add]
    have eB : M * 2 ^ (b + (G - 53)) = n * 2 ^ (G - 52 - 1) := by rw [hn, Nat.mul_assoc, ← Nat.pow_add, show G - 52 - 1 = G - 53 by omega]
    rw [eA, eB]
    have hr : rne D (n * 2 ^ (G - 52 - 1)) ≤ D / (n * 2 ^ (G - 52 - 1)) + 1 := by
      unfold rne
      exact Nat.add_le_add_left (Bool.toNat_le _) _
    have hr2 : D / (n * 2 ^ (G - 52 - 1)) ≤ D / n := by
      rw [← Nat.div_div_eq_div_mul]; exact Nat.div_le_self _ _
    rw [Nat.min_eq_left (by omega)]
  · have e1 : 2 ^ (G - 1) ≤ D / n := by
      have : 2 ^ G = 2 * 2 ^ (G - 1) := by rw [show G = (G - 1) + 1 by omega, Nat.pow_succ]; simp; omega
      omega
    have e2 := (Nat.le_div_iff_mul_le hn0).1 e1
    have e3 : 4503599627370496 * (M * 2 ^ (b + (G - 53))) = 2 ^ (G - 1) * n := by
      rw [Nat.pow_add, ← Nat.mul_assoc M, ← hn, show G - 1 = 52 + (G - 53) by omega, Nat.pow_add, Nat.mul_comm n, ← Nat.mul_assoc]
    have eA : N * 2 ^ (a + 54) = D := by rw [hD, Nat.mul_assoc, ← Nat.pow_add]
    rw [e3, eA]; exact e2
  · have e1 : D / n < 2 ^ G := by rw [Nat.pow_succ] at hGhi; omega
    have e2 := (Nat.div_lt_iff_lt_mul hn0).1 e1
    have e3 : 9007199254740992 * (M * 2 ^ (b + (G - 53))) = 2 ^ G * n := by
      rw [Nat.pow_add, ← Nat.mul_assoc M, ← hn, show G = 53 + (G - 53) by omega, Nat.pow_add, Nat.mul_comm n, ← Nat.mul_assoc, show 53 + (G - 53) - 53 = G - 53 by omega]
    have eA : N * 2 ^ (a + 54) = D := by rw [hD, Nat.mul_assoc, ← Nat.pow_add]
    rw [e3, eA]; exact e2

theorem div_zero (M : Nat) (hM0 : M ≠ 0) (hM : M < 2 ^ 53) : double.div (encN 0) (encN M) = some 0 := by
  have htM := top_bounds hM0 hM
  unfold Format.div
  rw [read_zero, read_pos M hM0 hM]
  generalize M * 2 ^ (52 - M.log2) = n at *
  have hn : n ≠ 0 := by omega
  simp only [Datum.quotient, if_neg hn, Option.map_some, Format.write, Nat.zero_shiftLeft, Nat.zero_div, Nat.zero_mod]
  rfl

/-- THE QUOTIENT HANGS ON THE RATIO ALONE. -/
theorem div_ratio (N M c : Nat) (hc : c ≠ 0) (hM0 : M ≠ 0) (hN : N * c < 2 ^ 53) (hM : M * c < 2 ^ 53) :
    double.div (encN (N * c)) (encN (M * c)) = double.div (encN N) (encN M) := by
  have hc1 : 0 < c := Nat.pos_of_ne_zero hc
  have hN' : N < 2 ^ 53 := Nat.lt_of_le_of_lt (Nat.le_mul_of_pos_right _ hc1) hN
  have hM' : M < 2 ^ 53 := Nat.lt_of_le_of_lt (Nat.le_mul_of_pos_right _ hc1) hM
  have hMc : M * c ≠ 0 := Nat.mul_ne_zero hM0 hc
  rcases Nat.eq_zero_or_pos N with rfl | hN0
  · rw [Nat.zero_mul, div_zero _ hMc hM, div_zero _ hM0 hM']
  obtain ⟨e1, p1, q1, h1, k1, l1, lo1, hi1⟩ := div_pos N M (by omega) hM0 hN' hM'
  obtain ⟨e2, p2, q2, h2, k2, l2, lo2, hi2⟩ := div_pos (N * c) (M * c) (Nat.mul_ne_zero (by omega) hc) hMc hN hM
  rw [h1, h2]
  -- strike c
  have s1 : N * c * 2 ^ p2 = c * (N * 2 ^ p2) := by rw [Nat.mul_comm N c, Nat.mul_assoc]
  have s2 : M * c * 2 ^ q2 = c * (M * 2 ^ q2) := by rw [Nat.mul_comm M c, Nat.mul_assoc]
  rw [s1, s2] at lo2 hi2
  rw [Nat.mul_left_comm] at lo2
  rw [Nat.mul_left_comm 9007199254740992] at hi2
  have lo2' := Nat.le_of_mul_le_mul_left lo2 hc1
  have hi2' := Nat.lt_of_mul_lt_mul_left hi2
  rw [s1, s2, rne_scale c _ _ hc1]
  clear s1 s2 lo2 hi2 h1 h2
  -- both in the same binade
  have P1 := Nat.two_pow_pos q1
  have P2 := Nat.two_pow_pos q2
  have cross : ∀ p q r s : Nat, N * 2 ^ p * 2 ^ r < 2 * (N * 2 ^ q * 2 ^ s) → p + r < q + s + 1 := by
    intro p q r s h
    rcases Nat.lt_or_ge (p + r) (q + s + 1) with hh | hh
    · exact hh
    · exfalso
      rw [Nat.mul_assoc, ← Nat.pow_add, Nat.mul_assoc, ← Nat.pow_add, Nat.mul_left_comm, ← Nat.pow_succ'] at h
      have h' : N * 2 ^ (p + r) < N * 2 ^ (q + s + 1) := h
      have := Nat.mul_le_mul_left N (Nat.pow_le_pow_right (show 0 < 2 by omega) hh)
      omega
  have x1 : N * 2 ^ p1 * 2 ^ q2 < 2 * (N * 2 ^ p2 * 2 ^ q1) := by
    have u1 := Nat.mul_lt_mul_of_pos_right hi1 P2
    have u2 := Nat.mul_le_mul_right (2 ^ q1) lo2'
    have u3 : 9007199254740992 * (M * 2 ^ q1) * 2 ^ q2 = 2 * (4503599627370496 * (M * 2 ^ q2) * 2 ^ q1) := by
      have : M * 2 ^ q1 * 2 ^ q2 = M * 2 ^ q2 * 2 ^ q1 := by rw [Nat.mul_assoc, Nat.mul_comm (2 ^ q1), ← Nat.mul_assoc]
      rw [Nat.mul_assoc 9007199254740992, this, Nat.mul_assoc 4503599627370496]; omega
    omega
  have x2 : N * 2 ^ p2 * 2 ^ q1 < 2 * (N * 2 ^ p1 * 2 ^ q2) := by
    have u1 := Nat.mul_lt_mul_of_pos_right hi2' P1
    have u2 := Nat.mul_le_mul_right (2 ^ q2) lo1
    have u3 : 9007199254740992 * (M * 2 ^ q2) * 2 ^ q1 = 2 * (4503599627370496 * (M * 2 ^ q1) * 2 ^ q2) := by
      have : M * 2 ^ q1 * 2 ^ q2 = M * 2 ^ q2 * 2 ^ q1 := by rw [Nat.mul_assoc, Nat.mul_comm (2 ^ q1), ← Nat.mul_assoc]
      rw [Nat.mul_assoc 9007199254740992, ← this, Nat.mul_assoc 4503599627370496]; omega
    omega
  have y1 := cross _ _ _ _ x1
  have y2 := cross _ _ _ _ x2
  have he : e1 = e2 := by omega
  have hpq : p1 + q2 = p2 + q1 := by omega
  rw [he, rne_cross (N * 2 ^ p1) (M * 2 ^ q1) (N * 2 ^ p2) (M * 2 ^ q2) (Nat.mul_pos (by omega) P1) (Nat.mul_pos (by omega) P2) (by
    have t1 : N * 2 ^ p1 * (M * 2 ^ q2) = N * M * 2 ^ (p1 + q2) := by rw [Nat.mul_mul_mul_comm, Nat.pow_add]
    have t2 : N * 2 ^ p2 * (M * 2 ^ q1) = N * M * 2 ^ (p2 + q1) := by rw [Nat.mul_mul_mul_comm, Nat.pow_add]
    rw [t1, t2, hpq])]

/-- a word that is no NaN is equal to itself -/
theorem order_self (r : Nat) (h : r ≤ 9218868437227405312) : double.order r r = some .eq := by
  have hr : double.read r = .number false r (-1074) ∨ (∃ m i, double.read r = .number false m i) ∨ double.read r = .infinity false := by
    unfold Format.read
    rw [d_sw, d_bin, d_inf, d_lp]
    have h1 : r % 9223372036854775808 = r := Nat.mod_eq_of_lt (by omega)
    have h2 : r / 9223372036854775808 = 0 := Nat.div_eq_of_lt (by omega)
    have h7 : ((0 : Nat) % 2 == 1) = false := rfl
    simp only [h1, h2, h7]
    split
    · exact .inl rfl
    · split
      · exact .inr (.inl ⟨_, _, rfl⟩)
      · rw [if_pos (by omega)]; exact .inr (.inr rfl)
  have hc : ∀ x : Int, compare x x = .eq := fun x => by simp [compare, compareOfLessAndEq]
  unfold Format.order
  rcases hr with hr | ⟨m, i, hr⟩ | hr <;> rw [hr]
  · simp only [Datum.order, hc]
  · simp only [Datum.order, hc]
  · rfl

theorem nearest_le (mag : Nat) (place : Int) : double.nearest false mag place ≤ 9218868437227405312 := by
  unfold Format.nearest
  split
  · rw [d_word]; omega
  · rw [d_word, d_inf]; exact Nat.min_le_right _ _

/-- the quotient of two whole numbers is a number -/
theorem div_some (N M : Nat) (hM0 : M ≠ 0) (hN : N < 2 ^ 53) (hM : M < 2 ^ 53) : ∃ R, double.div (encN N) (encN M) = some R ∧ double.order R R = some .eq := by
  rcases Nat.eq_zero_or_pos N with rfl | hN0
  · exact ⟨0, div_zero M hM0 hM, order_self 0 (by omega)⟩
  obtain ⟨a, ha⟩ := read_N N hN
  have hb := read_pos M hM0 hM
  have htM := top_bounds hM0 hM
  unfold Format.div
  rw [ha, hb]
  generalize M * 2 ^ (52 - M.log2) = n at *
  have hn : n ≠ 0 := by omega
  simp only [Datum.quotient, if_neg hn, Option.map_some, Format.write, Bool.xor_false]
  exact ⟨_, rfl, order_self _ (nearest_le _ _)⟩

/-- A NORMAL NUMBER divided by one is itself. -/
theorem div_one (V : Nat) (h0 : 4503599627370496 ≤ V) (h1 : V < 9218868437227405312) : double.div V (encN 1) = some V := by
  have hone : double.read (encN 1) = .number false 4503599627370496 (-52) := by decide
  have hV : double.read V = .number false (4503599627370496 + V % 4503599627370496) (-1074 + ((V / 4503599627370496 - 1 : Nat) : Int)) := by
    unfold Format.read
    rw [d_sw, d_bin, d_inf, d_lp]
    have h1 : V % 9223372036854775808 = V := Nat.mod_eq_of_lt (by omega)
    have h2 : V / 9223372036854775808 = 0 := Nat.div_eq_of_lt (by omega)
    have h7 : ((0 : Nat) % 2 == 1) = false := rfl
    simp only [h1, h2, h7]
    rw [if_neg (by omega), if_pos (by omega)]
  obtain ⟨T, hT⟩ : ∃ T, T = 4503599627370496 + V % 4503599627370496 := ⟨_, rfl⟩
  obtain ⟨E, hE⟩ : ∃ E, E = V / 4503599627370496 - 1 := ⟨_, rfl⟩
  rw [← hT, ← hE] at hV
  have hT1 : 4503599627370496 ≤ T ∧ T < 9007199254740992 := by omega
  have hVT : E * 4503599627370496 + T = V := by omega
  have hE2 : E < 2046 := by omega
  have hT0 : T ≠ 0 := by omega
  have hlogT : T.log2 = 52 := by
    apply Nat.le_antisymm
    · have : T.log2 < 53 := by rw [Nat.log2_lt hT0, show (2 : Nat) ^ 53 = 9007199254740992 by decide]; omega
      omega
    · rw [Nat.le_log2 hT0, show (2 : Nat) ^ 52 = 4503599627370496 by decide]; omega
  have hlog1 : (4503599627370496 : Nat).log2 = 52 := by decide +kernel
  unfold Format.div
  rw [hV, hone, d_fb]
  simp only [Datum.quotient, hlogT, hlog1, Bool.xor_false, Nat.shiftLeft_eq]
  rw [if_neg (by omega)]
  have e54 : (2 : Nat) ^ (52 + 2 + 52 - 52) = 4503599627370496 * 4 := by decide
  have q1 : T * (4503599627370496 * 4) / 4503599627370496 = T * 4 := by omega
  have q2 : T * (4503599627370496 * 4) % 4503599627370496 = 0 := by omega
  simp only [e54, q1, q2, Option.map_some]
  have q3 : 2 * (T * 4) + ((0 : Nat) != 0).toNat = T * 2 ^ 3 := by simp; omega
  rw [q3]
  have hl := log2_mul_pow T 3 hT0
  rw [hlogT] at hl
  unfold Format.write Format.nearest
  simp only [if_neg (show ¬ T * 2 ^ 3 = 0 by omega), hl, d_fb, d_lp, d_bin, d_inf]
  have hlast : max (-1074 + (E : Int) - -52 - ((52 + 2 + 52 - 52 : Nat) : Int) - 1 + ((52 + 3 : Nat) : Int) - ((52 : Nat) : Int)) (-1074) = -1074 + (E : Int) := by omega
  rw [hlast]
  rw [show (-1074 + (E : Int) - -52 - ((52 + 2 + 52 - 52 : Nat) : Int) - 1 - (-1074 + (E : Int))).toNat = 0 by omega, Nat.shiftLeft_zero,
    show (-1074 + (E : Int) - (-1074 + (E : Int) - -52 - ((52 + 2 + 52 - 52 : Nat) : Int) - 1)).toNat = 3 by omega, cut_exact _ _ _ hT0, d_word,
    show (-1074 + (E : Int) - -1074).toNat = E by omega, hVT, Nat.min_eq_left (by omega)]

/-- A WHOLE NUMBER BELOW 2^60, made a double: nought or a normal number. -/
theorem nearest_normal (m : Nat) (h0 : m ≠ 0) (h : m < 2 ^ 60) : 4503599627370496 ≤ double.nearest false m 0 ∧ double.nearest false m 0 < 9218868437227405312 := by
  have hL : m.log2 < 60 := (Nat.log2_lt h0).2 h
  rcases Nat.lt_or_ge m.log2 53 with h53 | h53
  · have hm : m < 2 ^ 53 := (Nat.log2_lt h0).1 h53
    have e := nearest_exact m 0 h0 hm
    rw [Nat.pow_zero, Nat.mul_one] at e
    have e' : double.nearest false m 0 = encN m := e
    have ht := top_bounds h0 hm
    rw [e']
    unfold encN
    rw [if_neg h0]
    omega
  · have hlo := Nat.log2_self_le h0
    have hhi := Nat.lt_log2_self (n := m)
    unfold Format.nearest
    rw [if_neg h0, d_fb, d_lp, d_bin, d_inf]
    have hlast : max ((0 : Int) + (m.log2 : Int) - ((52 : Nat) : Int)) (-1074) = (m.log2 : Int) - 52 := by omega
    simp only [hlast]
    rw [show ((0 : Int) - ((m.log2 : Int) - 52)).toNat = 0 by omega, Nat.shiftLeft_zero, show (((m.log2 : Int) - 52) - (0 : Int)).toNat = m.log2 - 52 by omega, d_word, show ((m.log2 : Int) - 52 - -1074).toNat = m.log2 + 1022 by omega]
    have hmin : min (m.log2 - 52) (m.log2 + 2) = m.log2 - 52 := by omega
    have hk : Toward.even.cut false m (m.log2 - 52) ≤ m / 2 ^ (m.log2 - 52) + 1 := by
      simp only [Toward.cut, hmin, Nat.one_shiftLeft]
      exact Nat.add_le_add_left (Bool.toNat_le _) _
    have hq : m / 2 ^ (m.log2 - 52) < 9007199254740992 := by
      rw [Nat.div_lt_iff_lt_mul (Nat.two_pow_pos _)]
      calc m < 2 ^ (m.log2 + 1) := hhi
        _ = 9007199254740992 * 2 ^ (m.log2 - 52) := by rw [show m.log2 + 1 = 53 + (m.log2 - 52) by omega, Nat.pow_add]
    omega

/-- ... divided by one it is itself, and it is equal to itself -/
theorem whole_over_one (m : Nat) (h : m < 2 ^ 60) : double.div (double.nearest false m 0) (encN 1) = some (double.nearest false m 0) ∧ double.order (double.nearest false m 0) (double.nearest false m 0) = some .eq := by
  refine ⟨?_, order_self _ (nearest_le _ _)⟩
  rcases Nat.eq_zero_or_pos m with rfl | h0
  · rw [nearest_zero]; exact div_zero 1 (by omega) (by omega)
  · obtain ⟨a, b⟩ := nearest_normal m (by omega) h
    exact div_one _ a b

end Go.Proofs.Qxb6001184a.Fl
