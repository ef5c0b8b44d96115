/-
  PLAIN MATHEMATICS, no Go in sight: the number that a run of decimal digits (as bytes) stands for.
-/
namespace Go.Proofs.Qxb6001184a.Plain

/-- Horner's rule, from the left: k bytes from place s on, each taken for a decimal digit. -/
def hvf (c : Nat → Int) (s : Nat) : Nat → Int
  | 0 => 0
  | k + 1 => hvf c s k * 10 + (c (s + k) - 48)

theorem hvf_zero (c : Nat → Int) (s : Nat) : hvf c s 0 = 0 := rfl
theorem hvf_succ (c : Nat → Int) (s k : Nat) : hvf c s (k + 1) = hvf c s k * 10 + (c (s + k) - 48) := rfl

theorem hvf_bounds (c : Nat → Int) (s k : Nat) (hd : ∀ j, j < k → 48 ≤ c (s + j) ∧ c (s + j) ≤ 57) : 0 ≤ hvf c s k ∧ hvf c s k < 10 ^ k := by
  induction k with
  | zero => simp [hvf]
  | succ k ih =>
    have h1 := ih (fun j hj => hd j (by omega))
    have h2 := hd k (by omega)
    rw [hvf_succ, Int.pow_succ]
    omega

theorem pow_le_of (k m : Nat) (h : k ≤ m) : (10 : Int) ^ k ≤ 10 ^ m := by
  have := Nat.pow_le_pow_right (show 0 < 10 by omega) h
  exact_mod_cast this

/-- ten to the eighteenth is room enough for eighteen digits -/
theorem hvf_lt18 (c : Nat → Int) (s k : Nat) (hd : ∀ j, j < k → 48 ≤ c (s + j) ∧ c (s + j) ≤ 57) (h : k ≤ 18) : 0 ≤ hvf c s k ∧ hvf c s k < 1000000000000000000 := by
  have h1 := hvf_bounds c s k hd
  have h2 := pow_le_of k 18 h
  have h3 : (10 : Int) ^ 18 = 1000000000000000000 := by decide
  omega
theorem hvf_lt17 (c : Nat → Int) (s k : Nat) (hd : ∀ j, j < k → 48 ≤ c (s + j) ∧ c (s + j) ≤ 57) (h : k ≤ 17) : 0 ≤ hvf c s k ∧ hvf c s k < 100000000000000000 := by
  have h1 := hvf_bounds c s k hd
  have h2 := pow_le_of k 17 h
  have h3 : (10 : Int) ^ 17 = 100000000000000000 := by decide
  omega

/-- the byte of the i-th decimal digit of U, from the right -/
def dgt (U : Int) (i : Nat) : Int := 48 + U / 10 ^ i % 10

theorem dgt_range (U : Int) (i : Nat) : 48 ≤ dgt U i ∧ dgt U i ≤ 57 := by unfold dgt; omega

theorem div_pow_succ (U : Int) (i : Nat) : U / 10 ^ (i + 1) = U / 10 ^ i / 10 := by
  have hp : (0 : Int) < 10 ^ i := Int.pow_pos (by omega)
  rw [Int.pow_succ, Int.ediv_ediv, if_neg (by omega), Int.sub_zero]

theorem div_pow_bounds (U : Int) (h : 0 ≤ U) (i : Nat) : 0 ≤ U / 10 ^ i ∧ U / 10 ^ i ≤ U := by
  have hp : (0 : Int) < 10 ^ i := Int.pow_pos (by omega)
  exact ⟨Int.ediv_nonneg h (Int.le_of_lt hp), Int.ediv_le_self _ h⟩

theorem div_pow18 (U : Int) (h0 : 0 ≤ U) (h : U < 1000000000000000000) : U / 10 ^ 18 = 0 := by
  have e : (10 : Int) ^ 18 = 1000000000000000000 := by decide
  rw [e]; omega

/-- z zeros and then the k digits of U, from place s on, stand for U. -/
theorem hvf_digits (U : Int) (c : Nat → Int) (s z k : Nat) (hk : U / 10 ^ k = 0) (hz : ∀ j, j < z → c (s + j) = 48) (hc : ∀ j, j < k → c (s + z + j) = dgt U (k - 1 - j)) :
    hvf c s (z + k) = U := by
  have hzz : ∀ m, m ≤ z → hvf c s m = 0 := by
    intro m
    induction m with
    | zero => intro _; rfl
    | succ m ih => intro hm; rw [hvf_succ, ih (by omega), hz m (by omega)]; rfl
  have hj : ∀ j, j ≤ k → hvf c s (z + j) = U / 10 ^ (k - j) := by
    intro j
    induction j with
    | zero => intro _; rw [Nat.add_zero, Nat.sub_zero, hk]; exact hzz z (Nat.le_refl _)
    | succ j ih =>
      intro hjk
      rw [← Nat.add_assoc, hvf_succ, ih (by omega), ← Nat.add_assoc, hc j (by omega)]
      have e1 : k - j = (k - 1 - j) + 1 := by omega
      have e2 : k - (j + 1) = k - 1 - j := by omega
      rw [e1, e2, div_pow_succ]
      unfold dgt
      generalize U / 10 ^ (k - 1 - j) = V
      omega
  have := hj k (Nat.le_refl _)
  rw [Nat.sub_self] at this
  simpa using this

end Go.Proofs.Qxb6001184a.Plain
