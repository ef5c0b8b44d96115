/-
  THE WALKS OF 'number' (function 20) AND 'ZZNumber' (function 8), by contracts.
-/
import Derived.Test.Qxb6001184aRows
import Derived.Test.Qxb6001184aPlain
import Derived.WalkKit
import Derived.ProofKit
import Derived.OpenShut
import Derived.WalkSpells
import Derived.WalkLawsBesides
import Derived.Below
import Derived.BigQuiet
import Derived.Deep.QuietTactic
namespace Go.Proofs.Qxb6001184a
open Go.ChangeShapes Go.WideShapes Go.ChangeAt Go.RowKit
open Plain

/-- a float's store: the walk's set lacks it -/
theorem run_store_float {P : Program} {w : World} {a : Addr} {m : Mode} (k : FloatKind) (n : Nat) : (store a (.float k n) m).run P w = stored P w a (.float k n) m := run_store P w a _ m rfl
attribute [local go_sem] run_store_float

set_option maxHeartbeats 1000000 in
set_option maxRecDepth 100000 in
/-- 'number' at an optional sign and one to eighteen digits, and nothing behind them: the integer. -/
theorem number_int (g n cap s : Nat) (neg : Bool) (c : Nat → Int) (w : World)
    (hs : (s = 0 ∧ neg = false ∧ 48 ≤ c 0) ∨ (s = 1 ∧ neg = false ∧ c 0 = 43) ∨ (s = 1 ∧ neg = true ∧ c 0 = 45))
    (h1 : s + 1 ≤ n) (h18 : n ≤ s + 18) (hd : ∀ j, j < n - s → 48 ≤ c (s + j) ∧ c (s + j) ≤ 57)
    (hc : ∀ j, j < n → w.cell? ⟨g, j, none⟩ = some (.int .u8 (c j))) (hg : g < w.heap.size) :
    Calls Try.prog 20 #[.slice (some ⟨g, 0, none⟩) n cap] w fun e w' =>
      e = .returned (.agg #[.int .i64 (if neg then - hvf c s (n - s) else hvf c s (n - s)), .float .f64 0, .bool true]) ∧ Below w.heap.size w w' := by
  have HD : Hid (∀ j, j < n - s → 48 ≤ c (s + j) ∧ c (s + j) ≤ 57) := hd
  clear hd
  have hs2 : n ≤ 19 ∧ 1 ≤ n ∧ s ≤ 1 := by omega
  obtain ⟨hn19, hn1, hs1⟩ := hs2
  have c0 := hc 0 (by omega)
  have hc' : ∀ j, j < n → (w.alloc (Obj.cells #[Value.int IntKind.i64 0, Value.float FloatKind.f64 0, Value.bool false] 44)).cell? ⟨g, j, none⟩ = some (.int .u8 (c j)) := by
    intro j hj
    rw [World.cell?_alloc_old _ _ _ (by show g ≠ _; omega)]
    exact hc j hj
  clear hc
  rcases hs with ⟨es, rfl, h0⟩ | ⟨es, rfl, h0⟩ | ⟨es, rfl, h0⟩
  · have h43 : (c 0 == 43) = false := by simp; omega
    have h45 : (c 0 == 45) = false := by simp; omega
    have ES : Hid (s = 0) := es
    clear es h0
    go_enter Try.func20, Try.ntmps20
    go_wp2
    clear h43 h45 c0
    go_loop [3, 5, 6] (fun i wh dg => ∃ p : Nat, s ≤ p ∧ p ≤ n ∧ i = .int .i64 p ∧ wh = .int .i64 (hvf c s (p - s)) ∧ dg = .int .i64 (p - s : Nat)) (fun i _ _ => n - (intOf i).toNat)
    case atStart => exact ⟨s, by omega, by omega, by rw [ES.out]; rfl, by rw [Nat.sub_self]; rfl, by rw [Nat.sub_self]; rfl⟩
    case round =>
      obtain ⟨p, hsp, hpn, rfl, rfl, rfl⟩ := hrel
      have hb := hvf_lt18 c s (p - s) (fun j hj => HD.out j (by omega)) (by omega)
      by_cases hlt : p < n
      · have hb17 := hvf_lt17 c s (p - s) (fun j hj => HD.out j (by omega)) (by omega)
        have hk : 48 ≤ c p ∧ c p ≤ 57 := by have := HD.out (p - s) (by omega); rwa [show s + (p - s) = p by omega] at this
        obtain ⟨hk1, hk2⟩ := hk
        have hk18 : p - s < 18 := by omega
        have HS : Hid (hvf c s (p + 1 - s) = hvf c s (p - s) * 10 + (c p - 48)) := by
          have e1 : p + 1 - s = (p - s) + 1 := by omega
          have e2 : s + (p - s) = p := by omega
          rw [e1, hvf_succ, e2]; exact rfl
        go_wp2
        go_round
        case rel => exact ⟨p + 1, by omega, by omega, by go_num, by rw [HS.out], by go_num⟩
        case measure => simp [intOf]; omega
      · obtain rfl : p = n := by omega
        have hps : decide ((0 : Int) < ((p - s : Nat) : Int)) = true := by simp; omega
        clear hc'
        go_wp2
        exact bodyPost_ret (v := .agg #[.int .i64 (hvf c s (p - s)), .float .f64 0, .bool true]) (by simp [results, Try.results20, go_sem]) rfl ⟨rfl, ((Below.refl _ _).alloc (Nat.le_refl _) _)⟩
  · have ES : Hid (s = 1) := es
    clear es
    go_enter Try.func20, Try.ntmps20
    go_wp2
    clear h0 c0
    go_loop [3, 5, 6] (fun i wh dg => ∃ p : Nat, s ≤ p ∧ p ≤ n ∧ i = .int .i64 p ∧ wh = .int .i64 (hvf c s (p - s)) ∧ dg = .int .i64 (p - s : Nat)) (fun i _ _ => n - (intOf i).toNat)
    case atStart => exact ⟨s, by omega, by omega, by rw [ES.out]; rfl, by rw [Nat.sub_self]; rfl, by rw [Nat.sub_self]; rfl⟩
    case round =>
      obtain ⟨p, hsp, hpn, rfl, rfl, rfl⟩ := hrel
      have hb := hvf_lt18 c s (p - s) (fun j hj => HD.out j (by omega)) (by omega)
      by_cases hlt : p < n
      · have hb17 := hvf_lt17 c s (p - s) (fun j hj => HD.out j (by omega)) (by omega)
        have hk : 48 ≤ c p ∧ c p ≤ 57 := by have := HD.out (p - s) (by omega); rwa [show s + (p - s) = p by omega] at this
        obtain ⟨hk1, hk2⟩ := hk
        have hk18 : p - s < 18 := by omega
        have HS : Hid (hvf c s (p + 1 - s) = hvf c s (p - s) * 10 + (c p - 48)) := by
          have e1 : p + 1 - s = (p - s) + 1 := by omega
          have e2 : s + (p - s) = p := by omega
          rw [e1, hvf_succ, e2]; exact rfl
        go_wp2
        go_round
        case rel => exact ⟨p + 1, by omega, by omega, by go_num, by rw [HS.out], by go_num⟩
        case measure => simp [intOf]; omega
      · obtain rfl : p = n := by omega
        have hps : decide ((0 : Int) < ((p - s : Nat) : Int)) = true := by simp; omega
        clear hc'
        go_wp2
        exact bodyPost_ret (v := .agg #[.int .i64 (hvf c s (p - s)), .float .f64 0, .bool true]) (by simp [results, Try.results20, go_sem]) rfl ⟨rfl, ((Below.refl _ _).alloc (Nat.le_refl _) _)⟩
  · have ES : Hid (s = 1) := es
    clear es
    go_enter Try.func20, Try.ntmps20
    go_wp2
    clear h0 c0
    go_loop [3, 5, 6] (fun i wh dg => ∃ p : Nat, s ≤ p ∧ p ≤ n ∧ i = .int .i64 p ∧ wh = .int .i64 (hvf c s (p - s)) ∧ dg = .int .i64 (p - s : Nat)) (fun i _ _ => n - (intOf i).toNat)
    case atStart => exact ⟨s, by omega, by omega, by rw [ES.out]; rfl, by rw [Nat.sub_self]; rfl, by rw [Nat.sub_self]; rfl⟩
    case round =>
      obtain ⟨p, hsp, hpn, rfl, rfl, rfl⟩ := hrel
      have hb := hvf_lt18 c s (p - s) (fun j hj => HD.out j (by omega)) (by omega)
      by_cases hlt : p < n
      · have hb17 := hvf_lt17 c s (p - s) (fun j hj => HD.out j (by omega)) (by omega)
        have hk : 48 ≤ c p ∧ c p ≤ 57 := by have := HD.out (p - s) (by omega); rwa [show s + (p - s) = p by omega] at this
        obtain ⟨hk1, hk2⟩ := hk
        have hk18 : p - s < 18 := by omega
        have HS : Hid (hvf c s (p + 1 - s) = hvf c s (p - s) * 10 + (c p - 48)) := by
          have e1 : p + 1 - s = (p - s) + 1 := by omega
          have e2 : s + (p - s) = p := by omega
          rw [e1, hvf_succ, e2]; exact rfl
        go_wp2
        go_round
        case rel => exact ⟨p + 1, by omega, by omega, by go_num, by rw [HS.out], by go_num⟩
        case measure => simp [intOf]; omega
      · obtain rfl : p = n := by omega
        have hps : decide ((0 : Int) < ((p - s : Nat) : Int)) = true := by simp; omega
        clear hc'
        go_wp2
        exact bodyPost_ret (v := .agg #[.int .i64 (- hvf c s (p - s)), .float .f64 0, .bool true]) (by simp [results, Try.results20, go_sem]) rfl ⟨rfl, ((Below.refl _ _).alloc (Nat.le_refl _) _)⟩

set_option maxHeartbeats 1000000 in
set_option maxRecDepth 100000 in
/-- 'ZZNumber' lays out what 'number' gives. -/
theorem zz_of (a : Option Addr) (n cap : Nat) (W : Int) (F : Nat) (I : Bool) (w : World)
    (h : Hid (Calls Try.prog 20 #[.slice a n cap] w fun e w' => e = .returned (.agg #[.int .i64 W, .float .f64 F, .bool I]) ∧ Below w.heap.size w w')) :
    Calls Try.prog 8 #[.slice a n cap] w fun e w' => e = .returned (.tuple #[.int .i64 W, .float .f64 F, .bool I]) ∧ Below w.heap.size w w' := by
  go_enter Try.func8, Try.ntmps8
  go_wp2_with fail
  refine h.out.mono ?_
  rintro e w1 ⟨rfl, hb⟩
  have HB : Hid (Below w.heap.size w w1) := hb
  clear hb
  go_wp2_with fail
  go_quiet (fail)
  go_wp2
  go_ret3
  exact ⟨rfl, below_drewN (HB.out.alloc HB.out.size _) nq⟩
end Go.Proofs.Qxb6001184a
