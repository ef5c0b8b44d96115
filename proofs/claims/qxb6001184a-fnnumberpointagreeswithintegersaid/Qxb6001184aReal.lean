/-
  THE WALK OF 'number' (function 20) AT digits, a point, digits: the real.
-/
import Derived.Test.Qxb6001184aNumber
import Derived.Test.Qxb6001184aFloat
import Derived.Laws.FloatArith
namespace Go.Proofs.Qxb6001184a
open Go.ChangeShapes Go.WideShapes Go.ChangeAt Go.RowKit
open Plain
attribute [local go_sem] run_store_float

set_option maxHeartbeats 2000000 in
set_option maxRecDepth 100000 in
/-- 'number' at nd digits (1 to 18), a point, and digits to the end: what is read, given the chain of roundings. -/
theorem number_real (g n cap nd : Nat) (c : Nat → Int) (V S T : Nat → Nat) (R : Nat) (w : World)
    (hnd1 : 1 ≤ nd) (hnd18 : nd ≤ 18) (hn : nd + 1 ≤ n) (hn2 : n ≤ 1000)
    (hd : ∀ j, j < nd → 48 ≤ c j ∧ c j ≤ 57) (hdot : c nd = 46) (hf : ∀ j, nd < j → j < n → 48 ≤ c j ∧ c j ≤ 57)
    (hc : ∀ j, j < n → w.cell? ⟨g, j, none⟩ = some (.int .u8 (c j))) (hg : g < w.heap.size)
    (hV0 : V 0 = floatOfInt .f64 (hvf c 0 nd)) (hS0 : S 0 = 4607182418800017408)
    (hT : ∀ k, k < n - nd - 1 → floatBits .mul .f64 (V k) 4621819117588971520 = some (T k))
    (hV : ∀ k, k < n - nd - 1 → floatBits .add .f64 (T k) (floatOfInt .f64 (c (nd + 1 + k) - 48)) = some (V (k + 1)))
    (hS : ∀ k, k < n - nd - 1 → floatBits .mul .f64 (S k) 4621819117588971520 = some (S (k + 1)))
    (hlt : ∀ k, k < n - nd - 1 → (FloatKind.f64.format.order (S k) 4936209963552724370 == some Ordering.lt) = true)
    (hR : floatBits .quo .f64 (V (n - nd - 1)) (S (n - nd - 1)) = some R) :
    Calls Try.prog 20 #[.slice (some ⟨g, 0, none⟩) n cap] w fun e w' =>
      e = .returned (.agg #[.int .i64 0, .float .f64 R, .bool false]) ∧ Below w.heap.size w w' := by
  have HD : Hid (∀ j, j < nd → 48 ≤ c j ∧ c j ≤ 57) := hd
  have HF : Hid (∀ j, nd < j → j < n → 48 ≤ c j ∧ c j ≤ 57) := hf
  have HV0 : Hid (V 0 = floatOfInt .f64 (hvf c 0 nd)) := hV0
  have HS0 : Hid (S 0 = 4607182418800017408) := hS0
  have HT : Hid (∀ k, k < n - nd - 1 → floatBits .mul .f64 (V k) 4621819117588971520 = some (T k)) := hT
  have HV : Hid (∀ k, k < n - nd - 1 → floatBits .add .f64 (T k) (floatOfInt .f64 (c (nd + 1 + k) - 48)) = some (V (k + 1))) := hV
  have HS : Hid (∀ k, k < n - nd - 1 → floatBits .mul .f64 (S k) 4621819117588971520 = some (S (k + 1))) := hS
  have HL : Hid (∀ k, k < n - nd - 1 → (FloatKind.f64.format.order (S k) 4936209963552724370 == some Ordering.lt) = true) := hlt
  have HR : Hid (floatBits .quo .f64 (V (n - nd - 1)) (S (n - nd - 1)) = some R) := hR
  have HDot : Hid (c nd = 46) := hdot
  have h0 := hd 0 (by omega)
  have h43 : (c 0 == 43) = false := by simp; omega
  have h45 : (c 0 == 45) = false := by simp; omega
  clear hd hf hV0 hS0 hT hV hS hlt hR hdot h0
  have c0 := hc 0 (by omega)
  have hn0 : 0 < n := by omega
  have hc' : ∀ j, j < n → (w.alloc (Obj.cells #[Value.int IntKind.i64 0, Value.float FloatKind.f64 0, Value.bool false] 44)).cell? ⟨g, j, none⟩ = some (.int .u8 (c j)) := by
    intro j hj
    rw [World.cell?_alloc_old _ _ _ (by show g ≠ _; omega)]
    exact hc j hj
  clear hc
  go_enter Try.func20, Try.ntmps20
  go_wp2
  clear h43 h45 c0
  go_loop [3, 5, 6] (fun i wh dg => ∃ p : Nat, p ≤ nd ∧ i = .int .i64 p ∧ wh = .int .i64 (hvf c 0 p) ∧ dg = .int .i64 p) (fun i _ _ => nd - (intOf i).toNat)
  case atStart => exact ⟨0, by omega, rfl, rfl, rfl⟩
  case round =>
    obtain ⟨p, hpn, rfl, rfl, rfl⟩ := hrel
    have hb := hvf_lt18 c 0 p (fun j hj => by rw [Nat.zero_add]; exact HD.out j (by omega)) (by omega)
    by_cases hlt : p < nd
    · have hb17 := hvf_lt17 c 0 p (fun j hj => by rw [Nat.zero_add]; exact HD.out j (by omega)) (by omega)
      obtain ⟨hk1, hk2⟩ := HD.out p hlt
      have HSt : Hid (hvf c 0 (p + 1) = hvf c 0 p * 10 + (c p - 48)) := by rw [hvf_succ, Nat.zero_add]; exact rfl
      go_wp2
      go_round
      case rel => exact ⟨p + 1, by omega, by go_num, by rw [HSt.out], by go_num⟩
      case measure => simp [intOf]; omega
    · obtain rfl : p = nd := by omega
      have hcp : c p = 46 := HDot.out
      have hne : ((p : Int) == (n : Int)) = false := by simp; omega
      go_wp2
      clear hb
      refine wp_loop_rounds 1 ?_
      rw [rounds_succ]
      go_wp2
      clear hcp
      go_loop [3, 7, 8] (fun i v sc => ∃ k : Nat, k ≤ n - p - 1 ∧ i = .int .i64 ((p + 1 + k : Nat) : Int) ∧ v = .float .f64 (V k) ∧ sc = .float .f64 (S k)) (fun i _ _ => n - (intOf i).toNat)
      case atStart => exact ⟨0, by omega, by go_num, by rw [HV0.out], by rw [HS0.out]⟩
      case round =>
        obtain ⟨k, hkn, rfl, rfl, rfl⟩ := hrel
        by_cases hk : k < n - p - 1
        · have hm : ∀ wx, (binOp .mul 25 (.float .f64 (V k)) (.float .f64 4621819117588971520)).run Try.prog wx = .ok (.float .f64 (T k)) wx := fun wx => run_float_arith wx .mul 25 .f64 _ _ _ (HT.out k hk)
          have ha : ∀ wx, (binOp .add 25 (.float .f64 (T k)) (.float .f64 (floatOfInt .f64 (c (p + 1 + k) - 48)))).run Try.prog wx = .ok (.float .f64 (V (k + 1))) wx := fun wx => run_float_arith wx .add 25 .f64 _ _ _ (HV.out k hk)
          have hm2 : ∀ wx, (binOp .mul 25 (.float .f64 (S k)) (.float .f64 4621819117588971520)).run Try.prog wx = .ok (.float .f64 (S (k + 1))) wx := fun wx => run_float_arith wx .mul 25 .f64 _ _ _ (HS.out k hk)
          have hl := HL.out k hk
          obtain ⟨hf1, hf2⟩ := HF.out (p + 1 + k) (by omega) (by omega)
          have hci := hc' (p + 1 + k) (by omega)
          have hin : p + 1 + k < n := by omega
          clear hc'
          go_wp2
          go_round
          case rel => exact ⟨k + 1, by omega, by go_num, rfl, rfl⟩
          case measure => simp [intOf]; omega
        · obtain rfl : k = n - p - 1 := by omega
          have hq : ∀ wx, (binOp .quo 25 (.float .f64 (V (n - p - 1))) (.float .f64 (S (n - p - 1)))).run Try.prog wx = .ok (.float .f64 R) wx := fun wx => run_float_arith wx .quo 25 .f64 _ _ _ HR.out
          clear hc'
          go_wp2
          exact bodyPost_ret (v := .agg #[.int .i64 0, .float .f64 R, .bool false]) (by simp [results, Try.results20, go_sem]) rfl ⟨rfl, ((Below.refl _ _).alloc (Nat.le_refl _) _)⟩

/-! ### The chain of roundings, reckoned -/

/-- Horner's rule from a start on. -/
def hvp (A : Int) (c : Nat → Int) (s : Nat) : Nat → Int
  | 0 => A
  | k + 1 => hvp A c s k * 10 + (c (s + k) - 48)
theorem hvp_zero (A : Int) (c : Nat → Int) (s : Nat) : hvp A c s 0 = A := rfl
theorem hvp_succ (A : Int) (c : Nat → Int) (s k : Nat) : hvp A c s (k + 1) = hvp A c s k * 10 + (c (s + k) - 48) := rfl
theorem hvp_bounds (A : Int) (c : Nat → Int) (s k m : Nat) (hA0 : 0 ≤ A) (hA : A < 10 ^ m) (hd : ∀ j, j < k → 48 ≤ c (s + j) ∧ c (s + j) ≤ 57) : 0 ≤ hvp A c s k ∧ hvp A c s k < 10 ^ (m + k) := by
  induction k with
  | zero => exact ⟨hA0, hA⟩
  | succ k ih =>
    have h1 := ih (fun j hj => hd j (by omega))
    have h2 := hd k (by omega)
    rw [hvp_succ, ← Nat.add_assoc, Int.pow_succ]
    omega
/-- zeros behind the digits multiply by ten -/
theorem hvp_zeros (A : Int) (c : Nat → Int) (s k z : Nat) (hz : ∀ j, j < z → c (s + k + j) = 48) : hvp A c s (k + z) = hvp A c s k * 10 ^ z := by
  induction z with
  | zero => simp
  | succ z ih =>
    rw [← Nat.add_assoc, hvp_succ, ih (fun j hj => hz j (by omega)), ← Nat.add_assoc, hz z (by omega), Int.pow_succ]
    rw [← Int.mul_assoc]; omega

open Fl in
/-- a whole number below 2^53, made a double -/
theorem floatOfInt_enc (x : Int) (h0 : 0 ≤ x) (h : x < 9007199254740992) : floatOfInt .f64 x = encN x.toNat := by
  unfold floatOfInt FloatKind.nearest FloatKind.encode FloatKind.format
  show Ieee.double.nearest (decide (x < 0)) x.natAbs 0 = _
  rw [decide_eq_false (by omega), show x.natAbs = x.toNat * 2 ^ 0 by omega]
  exact nearest_N x.toNat 0 (by omega)

open Fl in
theorem floatOfInt_nearest (x : Int) (h0 : 0 ≤ x) : floatOfInt .f64 x = Ieee.double.nearest false x.toNat 0 := by
  unfold floatOfInt FloatKind.nearest FloatKind.encode FloatKind.format
  show Ieee.double.nearest (decide (x < 0)) x.natAbs 0 = _
  rw [decide_eq_false (by omega), show x.natAbs = x.toNat by omega]

theorem one_enc : (4607182418800017408 : Nat) = Fl.encN 1 := by decide
theorem ten_enc : (4621819117588971520 : Nat) = Fl.encN 10 := by decide +kernel

open Fl in
/-- 'number' at one to eighteen digits and a point: the integer, made a real. -/
theorem number_point (g n cap nd : Nat) (c : Nat → Int) (w : World)
    (hnd1 : 1 ≤ nd) (hnd18 : nd ≤ 18) (hn : n = nd + 1) (hd : ∀ j, j < nd → 48 ≤ c j ∧ c j ≤ 57) (hdot : c nd = 46)
    (hc : ∀ j, j < n → w.cell? ⟨g, j, none⟩ = some (.int .u8 (c j))) (hg : g < w.heap.size) :
    Calls Try.prog 20 #[.slice (some ⟨g, 0, none⟩) n cap] w fun e w' =>
      e = .returned (.agg #[.int .i64 0, .float .f64 (floatOfInt .f64 (hvf c 0 nd)), .bool false]) ∧ Below w.heap.size w w' := by
  have hb := hvf_lt18 c 0 nd (fun j hj => by rw [Nat.zero_add]; exact hd j hj) hnd18
  refine number_real g n cap nd c (fun _ => floatOfInt .f64 (hvf c 0 nd)) (fun _ => 4607182418800017408) (fun _ => 0) _ w hnd1 hnd18 (by omega) (by omega) hd hdot (fun j h1 h2 => absurd h1 (by omega)) hc hg rfl rfl
    (fun k hk => absurd hk (by omega)) (fun k hk => absurd hk (by omega)) (fun k hk => absurd hk (by omega)) (fun k hk => absurd hk (by omega)) ?_
  rw [floatOfInt_nearest _ hb.1, one_enc]
  exact (whole_over_one (hvf c 0 nd).toNat (by have : (2 : Nat) ^ 60 = 1152921504606846976 := by decide
                                               omega)).1

theorem order_e22 : ∀ k, k < 15 → (FloatKind.f64.format.order (Fl.encN (10 ^ k)) 4936209963552724370 == some Ordering.lt) = true := by decide +kernel

open Fl in
/-- 'number' at digits, a point, digits, fifteen in all at most: the quotient of two whole numbers. -/
theorem number_frac (g n cap nd nf : Nat) (c : Nat → Int) (R : Nat) (w : World)
    (hnd1 : 1 ≤ nd) (h15 : nd + nf ≤ 15) (hn : n = nd + 1 + nf) (hd : ∀ j, j < nd → 48 ≤ c j ∧ c j ≤ 57) (hdot : c nd = 46) (hf : ∀ j, j < nf → 48 ≤ c (nd + 1 + j) ∧ c (nd + 1 + j) ≤ 57)
    (hc : ∀ j, j < n → w.cell? ⟨g, j, none⟩ = some (.int .u8 (c j))) (hg : g < w.heap.size)
    (hR : Ieee.double.div (encN (hvp (hvf c 0 nd) c (nd + 1) nf).toNat) (encN (10 ^ nf)) = some R) :
    Calls Try.prog 20 #[.slice (some ⟨g, 0, none⟩) n cap] w fun e w' =>
      e = .returned (.agg #[.int .i64 0, .float .f64 R, .bool false]) ∧ Below w.heap.size w w' := by
  have hb := hvf_bounds c 0 nd (fun j hj => by rw [Nat.zero_add]; exact hd j hj)
  have hbk : ∀ k, k ≤ nf → 0 ≤ hvp (hvf c 0 nd) c (nd + 1) k ∧ hvp (hvf c 0 nd) c (nd + 1) k < 10 ^ (nd + k) := fun k hk => hvp_bounds _ c (nd + 1) k nd hb.1 hb.2 (fun j hj => hf j (by omega))
  have h10 : ∀ m, m ≤ 15 → (10 : Int) ^ m ≤ 1000000000000000 := fun m hm => by
    have := pow_le_of m 15 hm
    have e : (10 : Int) ^ 15 = 1000000000000000 := by decide
    omega
  have h14 : ∀ m, m ≤ 14 → (10 : Int) ^ m ≤ 100000000000000 := fun m hm => by
    have := pow_le_of m 14 hm
    have e : (10 : Int) ^ 14 = 100000000000000 := by decide
    omega
  have h14n : ∀ m, m ≤ 14 → 10 ^ m ≤ 100000000000000 := fun m hm => by
    have := Nat.pow_le_pow_right (show 0 < 10 by omega) hm
    have e : (10 : Nat) ^ 14 = 100000000000000 := by decide
    omega
  have e53 : (2 : Nat) ^ 53 = 9007199254740992 := by decide
  refine number_real g n cap nd c (fun k => encN (hvp (hvf c 0 nd) c (nd + 1) k).toNat) (fun k => encN (10 ^ k)) (fun k => encN ((hvp (hvf c 0 nd) c (nd + 1) k).toNat * 10)) R w hnd1 (by omega) (by omega) (by omega) hd hdot
    (fun j h1 h2 => by have := hf (j - nd - 1) (by omega); rwa [show nd + 1 + (j - nd - 1) = j by omega] at this) hc hg ?_ ?_ ?_ ?_ ?_ ?_ ?_
  · have := h10 nd (by omega)
    rw [floatOfInt_enc _ hb.1 (by omega)]; rfl
  · exact one_enc.symm ▸ rfl
  · intro k hk
    have h1 := hbk k (by omega)
    have h2 := h14 (nd + k) (by omega)
    rw [ten_enc]
    exact mul_N _ 10 (by omega) (by omega) (by omega)
  · intro k hk
    have h1 := hbk k (by omega)
    have h2 := h14 (nd + k) (by omega)
    have h3 := hf k (by omega)
    rw [floatOfInt_enc _ (by omega) (by omega), hvp_succ]
    rw [show (hvp (hvf c 0 nd) c (nd + 1) k * 10 + (c (nd + 1 + k) - 48)).toNat = (hvp (hvf c 0 nd) c (nd + 1) k).toNat * 10 + (c (nd + 1 + k) - 48).toNat by omega]
    exact add_N _ _ (by omega)
  · intro k hk
    have := h14n k (by omega)
    rw [ten_enc, Nat.pow_succ]
    exact mul_N _ 10 (by omega) (by omega) (by omega)
  · intro k hk
    exact order_e22 k (by omega)
  · rw [show n - nd - 1 = nf by omega]; exact hR

end Go.Proofs.Qxb6001184a
