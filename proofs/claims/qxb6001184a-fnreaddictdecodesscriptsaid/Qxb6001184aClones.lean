/-
  THE CLONES (cloneBytes 10, cloneU16 14, cloneI32 15) AND numIsDigits (12), by contracts.
-/
import Derived.Test.Qxb6001184aRows
import Derived.Test.Qxb6001184aPlain
import Derived.WalkKit
import Derived.ProofKit
import Derived.OpenShut
import Derived.WalkSpells
import Derived.WalkLawsBesides
import Derived.Below
namespace Go.Proofs.Qxb6001184a
open Go.ChangeShapes Go.WideShapes Go.ChangeAt Go.RowKit
open Plain
set_option linter.unusedVariables false

/-- n cells, the j-th the integer c j -/
def cv (K : IntKind) (c : Nat → Int) (n : Nat) : List Value := (List.range n).map fun j => Value.int K (c j)
theorem cv_length (K : IntKind) (c : Nat → Int) (n : Nat) : (cv K c n).length = n := by simp [cv]
theorem cv_get (K : IntKind) (c : Nat → Int) (n j : Nat) (h : j < n) : (cv K c n)[j]? = some (.int K (c j)) := by simp [cv, h]
theorem cv_of (K : IntKind) (c : Nat → Int) (n : Nat) (xs : List Value) (hl : xs.length = n) (h : ∀ j, j < n → xs[j]? = some (.int K (c j))) : xs = cv K c n := by
  apply List.ext_getElem?
  intro j
  rcases Nat.lt_or_ge j n with hj | hj
  · rw [h j hj, cv_get K c n j hj]
  · rw [List.getElem?_eq_none (by omega), List.getElem?_eq_none (by rw [cv_length]; exact hj)]
theorem cv_cell (K : IntKind) (c : Nat → Int) (n : Nat) : ∀ u ∈ cv K c n, u.oneCell' = true := by
  intro u hu; simp only [cv, List.mem_map] at hu; obtain ⟨x, _, rfl⟩ := hu; rfl

/-- A slice of integers, as far as its length: it is empty, or its cells lie in one block. -/
def RowAt (K : IntKind) (w : World) (a : Option Addr) (len : Nat) (c : Nat → Int) : Prop :=
  len = 0 ∨ ∃ b off, a = some ⟨b, off, none⟩ ∧ b < w.heap.size ∧ ∀ j, j < len → w.cell? ⟨b, off + j, none⟩ = some (.int K (c j))

theorem RowAt.below {K : IntKind} {w w' : World} {a : Option Addr} {len : Nat} {c : Nat → Int} (h : RowAt K w a len c) (hb : Below w.heap.size w w') : RowAt K w' a len c := by
  rcases h with h | ⟨b, off, ha, hlt, hc⟩
  · exact .inl h
  · exact .inr ⟨b, off, ha, by have := hb.size; omega, fun j hj => by rw [hb.cell (by exact hlt)]; exact hc j hj⟩

/-- what a clone is: nil of nil; else a new row of the same integers -/
def Cloned (K : IntKind) (E : TypeId) (w w' : World) (a : Option Addr) (len : Nat) (c : Nat → Int) (v : Value) : Prop :=
  (a = none ∧ v = .slice none 0 0 ∧ w' = w) ∨
  (a ≠ none ∧ v = .slice (some ⟨w.heap.size, 0, none⟩) len len ∧ w'.ownsRow w.heap.size E 1 v len (cv K c len) ∧ Below w.heap.size w w')

theorem ownsRow_lt {w : World} {base : Nat} {e : TypeId} {size g n cap m : Nat} {xs : List Value} (h : w.ownsRow base e size (.slice (some ⟨g, 0, none⟩) n cap) m xs) : g < w.heap.size := by
  rcases h.2 with ⟨h', _⟩ | ⟨g', cap', cur, h', _, hg, _⟩
  · simp at h'
  · simp only [Value.slice.injEq, Option.some.injEq, Addr.mk.injEq, and_true] at h'
    have := lt_of_block hg
    omega

/-- are the first n all digits? -/
def digB (c : Nat → Int) (n : Nat) : Bool := decide (∀ j, j < n → 48 ≤ c j ∧ c j ≤ 57)

theorem ret_bool {a b : Bool} (h : a = b) : Ending.returned (.bool a) = .returned (.bool b) := by rw [h]

set_option maxHeartbeats 1000000 in
set_option maxRecDepth 100000 in
theorem numIsDigits_calls (a : Option Addr) (len cap : Nat) (c : Nat → Int) (w : World) (hrow : RowAt .u8 w a len c) (hlen : len ≤ 1048576) :
    Calls Try.prog 12 #[.slice a len cap] w fun e w' => e = .returned (.bool (digB c len)) ∧ w = w' := by
  have HR : Hid (RowAt .u8 w a len c) := hrow
  clear hrow
  go_enter Try.func12, Try.ntmps12
  go_wp2
  go_loop [3] (fun i => ∃ k : Nat, k ≤ len ∧ i = .int .i64 k ∧ Hid (∀ j, j < k → 48 ≤ c j ∧ c j ≤ 57)) (fun i => len - (intOf i).toNat)
  case atStart => exact ⟨0, by omega, rfl, fun j hj => absurd hj (by omega)⟩
  case round =>
    obtain ⟨k, hk, rfl, hds⟩ := hrel
    by_cases hlt : k < len
    · obtain ⟨b, off, rfl, hbl, hcs⟩ : ∃ b off, a = some (⟨b, off, none⟩ : Addr) ∧ b < w.heap.size ∧ ∀ j, j < len → w.cell? ⟨b, off + j, none⟩ = some (.int .u8 (c j)) := by
        rcases HR.out with h | h
        · exact absurd h (by omega)
        · exact h
      have hck := hcs k hlt
      clear hcs
      by_cases h1 : 48 ≤ c k
      · by_cases h2 : c k ≤ 57
        · go_wp2
          go_round
          case rel => exact ⟨k + 1, by omega, by go_num, fun j hj => by
            rcases Nat.lt_or_ge j k with h | h
            · exact hds.out j h
            · obtain rfl : j = k := by omega
              exact ⟨h1, h2⟩⟩
          case measure => simp [intOf]; omega
        · go_wp2
          go_ret
          exact ⟨ret_bool (decide_eq_false (fun hh => by have := (hh k hlt).2; omega)).symm, rfl⟩
      · go_wp2
        go_ret
        exact ⟨ret_bool (decide_eq_false (fun hh => by have := (hh k hlt).1; omega)).symm, rfl⟩
    · obtain rfl : k = len := by omega
      go_wp2
      go_ret
      exact ⟨ret_bool (decide_eq_true hds.out).symm, rfl⟩

theorem Try.info5_ : (Try.prog.info? 5).map (fun i => (i.zero, i.size, i.bytes)) = some (some (.int .u8 0), 1, 1) := by kernel_rfl

set_option maxHeartbeats 1000000 in
set_option maxRecDepth 100000 in
theorem cloneBytes_calls (a : Option Addr) (len cap : Nat) (c : Nat → Int) (w : World) (hrow : RowAt .u8 w a len c) (hlen : len ≤ 1048576) :
    Calls Try.prog 10 #[.slice a len cap] w fun e w' => ∃ v, e = .returned v ∧ Cloned .u8 5 w w' a len c v := by
  obtain ⟨i0, hi, hi0, hi1, hi2⟩ := info_parts Try.info5_
  have hnilq := fun (wx : World) (x : Option Addr) (n : Nat) => Lib.run_eql_slice_nil (P := Try.prog) wx 24 5 x n cap 0 0 Try.underlying24
  rcases a with _ | x
  · go_enter Try.func10, Try.ntmps10
    go_wp2
    go_ret
    exact ⟨_, rfl, .inl ⟨rfl, rfl, rfl⟩⟩
  · go_enter Try.func10, Try.ntmps10
    go_wp2_with (first | (at_make; refine wpList_make_full _ rfl (.tmp 8) (.tmp 8) 24 rfl w.heap.size 5 i0 (.int .u8 0) 1 Try.underlying24 hi hi0 hi1 .i64 .i64 _ _ len rfl rfl rfl rfl (by rw [hi2]; omega) (by unfold maxLen; omega) (by omega) ?_; intro w2 hown2 hgrow2))
    have hb2 : Below w.heap.size w w2 := (Below.refl _ _).grown hgrow2 (by omega) (by simp)
    clear hgrow2 hnilq
    have HR : Hid (RowAt .u8 w (some x) len c) := hrow
    clear hrow
    go_loopw [4] (fun i wr => ∃ k : Nat, k ≤ len ∧ i = .int .i64 k ∧ (∃ xs, wr.ownsRow w.heap.size 5 1 (.slice (some ⟨w.heap.size, 0, none⟩) len len) len xs ∧ ∀ j, j < k → xs[j]? = some (.int .u8 (c j))) ∧ Below w.heap.size w wr) (fun i _ => len - (intOf i).toNat)
    case atStart => exact ⟨0, by omega, rfl, ⟨_, hown2, fun j hj => absurd hj (by omega)⟩, hb2⟩
    case round =>
      obtain ⟨k, hk, rfl, ⟨xs, hown, hxs⟩, hb⟩ := hrel
      by_cases hlt : k < len
      · obtain ⟨b, off, hx, hbl, hcs⟩ : ∃ b off, some x = some (⟨b, off, none⟩ : Addr) ∧ b < w.heap.size ∧ ∀ j, j < len → w.cell? ⟨b, off + j, none⟩ = some (.int .u8 (c j)) := by
          rcases HR.out with h | h
          · exact absurd h (by omega)
          · exact h
        obtain rfl : x = ⟨b, off, none⟩ := by simpa using hx
        have hck : wr.cell? ⟨b, off + k, none⟩ = some (.int .u8 (c k)) := by rw [hb.cell (by exact hbl)]; exact hcs k hlt
        have hxl : xs.length = len := by simpa using hown.1
        have hdst : wr.cell? ⟨w.heap.size, k, none⟩ = some (xs[k]'(by omega)) := by rw [hown.cellAt k (by omega)]; exact List.getElem?_eq_getElem (by omega)
        have hfz := hown.frozenAt k
        have HSt : Hid ((wr.setCell ⟨w.heap.size, k, none⟩ (.int .u8 (c k))).ownsRow w.heap.size 5 1 (.slice (some ⟨w.heap.size, 0, none⟩) len len) len (xs.set k (.int .u8 (c k)))) := (hown.stored k _).1
        have HXs : Hid (∀ j, j < k → xs[j]? = some (.int .u8 (c j))) := hxs
        have HB : Hid (Below w.heap.size w wr) := hb
        clear hown hb hxs hown2 hb2 hx hcs
        go_wp2
        go_roundw
        case rel =>
          exact ⟨k + 1, by omega, by go_num, ⟨_, HSt.out, fun j hj => by
            rcases Nat.lt_or_ge j k with h | h
            · rw [List.getElem?_set_ne (by omega)]; exact HXs.out j h
            · obtain rfl : j = k := by omega
              rw [List.getElem?_set_self (by omega)]⟩, HB.out.setCell (Nat.le_refl _) _⟩
        case measure => simp [intOf]; omega
      · obtain rfl : k = len := by omega
        have HO : Hid (wr.ownsRow w.heap.size 5 1 (.slice (some ⟨w.heap.size, 0, none⟩) k k) k xs) := hown
        have HXs : Hid (∀ j, j < k → xs[j]? = some (.int .u8 (c j))) := hxs
        have HB : Hid (Below w.heap.size w wr) := hb
        clear hown hxs hb hown2 hb2
        go_wp2
        go_ret
        have e := cv_of .u8 c k xs (by simpa using HO.out.1) HXs.out
        exact ⟨_, rfl, .inr ⟨by simp, rfl, by rw [← e]; exact HO.out, HB.out⟩⟩

theorem Try.info39_ : (Try.prog.info? 39).map (fun i => (i.zero, i.size, i.bytes)) = some (some (.int .u16 0), 1, 2) := by kernel_rfl

set_option maxHeartbeats 1000000 in
set_option maxRecDepth 100000 in
theorem cloneU16_calls (a : Option Addr) (len cap : Nat) (c : Nat → Int) (w : World) (hrow : RowAt .u16 w a len c) (hlen : len ≤ 1048576) :
    Calls Try.prog 14 #[.slice a len cap] w fun e w' => ∃ v, e = .returned v ∧ Cloned .u16 39 w w' a len c v := by
  obtain ⟨i0, hi, hi0, hi1, hi2⟩ := info_parts Try.info39_
  have hnilq := fun (wx : World) (x : Option Addr) (n : Nat) => Lib.run_eql_slice_nil (P := Try.prog) wx 32 39 x n cap 0 0 Try.underlying32
  rcases a with _ | x
  · go_enter Try.func14, Try.ntmps14
    go_wp2
    go_ret
    exact ⟨_, rfl, .inl ⟨rfl, rfl, rfl⟩⟩
  · go_enter Try.func14, Try.ntmps14
    go_wp2_with (first | (at_make; refine wpList_make_full _ rfl (.tmp 8) (.tmp 8) 32 rfl w.heap.size 39 i0 (.int .u16 0) 1 Try.underlying32 hi hi0 hi1 .i64 .i64 _ _ len rfl rfl rfl rfl (by rw [hi2]; omega) (by unfold maxLen; omega) (by omega) ?_; intro w2 hown2 hgrow2))
    have hb2 : Below w.heap.size w w2 := (Below.refl _ _).grown hgrow2 (by omega) (by simp)
    clear hgrow2 hnilq
    have HR : Hid (RowAt .u16 w (some x) len c) := hrow
    clear hrow
    go_loopw [4] (fun i wr => ∃ k : Nat, k ≤ len ∧ i = .int .i64 k ∧ (∃ xs, wr.ownsRow w.heap.size 39 1 (.slice (some ⟨w.heap.size, 0, none⟩) len len) len xs ∧ ∀ j, j < k → xs[j]? = some (.int .u16 (c j))) ∧ Below w.heap.size w wr) (fun i _ => len - (intOf i).toNat)
    case atStart => exact ⟨0, by omega, rfl, ⟨_, hown2, fun j hj => absurd hj (by omega)⟩, hb2⟩
    case round =>
      obtain ⟨k, hk, rfl, ⟨xs, hown, hxs⟩, hb⟩ := hrel
      by_cases hlt : k < len
      · obtain ⟨b, off, hx, hbl, hcs⟩ : ∃ b off, some x = some (⟨b, off, none⟩ : Addr) ∧ b < w.heap.size ∧ ∀ j, j < len → w.cell? ⟨b, off + j, none⟩ = some (.int .u16 (c j)) := by
          rcases HR.out with h | h
          · exact absurd h (by omega)
          · exact h
        obtain rfl : x = ⟨b, off, none⟩ := by simpa using hx
        have hck : wr.cell? ⟨b, off + k, none⟩ = some (.int .u16 (c k)) := by rw [hb.cell (by exact hbl)]; exact hcs k hlt
        have hxl : xs.length = len := by simpa using hown.1
        have hdst : wr.cell? ⟨w.heap.size, k, none⟩ = some (xs[k]'(by omega)) := by rw [hown.cellAt k (by omega)]; exact List.getElem?_eq_getElem (by omega)
        have hfz := hown.frozenAt k
        have HSt : Hid ((wr.setCell ⟨w.heap.size, k, none⟩ (.int .u16 (c k))).ownsRow w.heap.size 39 1 (.slice (some ⟨w.heap.size, 0, none⟩) len len) len (xs.set k (.int .u16 (c k)))) := (hown.stored k _).1
        have HXs : Hid (∀ j, j < k → xs[j]? = some (.int .u16 (c j))) := hxs
        have HB : Hid (Below w.heap.size w wr) := hb
        clear hown hb hxs hown2 hb2 hx hcs
        go_wp2
        go_roundw
        case rel =>
          exact ⟨k + 1, by omega, by go_num, ⟨_, HSt.out, fun j hj => by
            rcases Nat.lt_or_ge j k with h | h
            · rw [List.getElem?_set_ne (by omega)]; exact HXs.out j h
            · obtain rfl : j = k := by omega
              rw [List.getElem?_set_self (by omega)]⟩, HB.out.setCell (Nat.le_refl _) _⟩
        case measure => simp [intOf]; omega
      · obtain rfl : k = len := by omega
        have HO : Hid (wr.ownsRow w.heap.size 39 1 (.slice (some ⟨w.heap.size, 0, none⟩) k k) k xs) := hown
        have HXs : Hid (∀ j, j < k → xs[j]? = some (.int .u16 (c j))) := hxs
        have HB : Hid (Below w.heap.size w wr) := hb
        clear hown hxs hb hown2 hb2
        go_wp2
        go_ret
        have e := cv_of .u16 c k xs (by simpa using HO.out.1) HXs.out
        exact ⟨_, rfl, .inr ⟨by simp, rfl, by rw [← e]; exact HO.out, HB.out⟩⟩

theorem Try.info21_ : (Try.prog.info? 21).map (fun i => (i.zero, i.size, i.bytes)) = some (some (.int .i32 0), 1, 4) := by kernel_rfl

set_option maxHeartbeats 1000000 in
set_option maxRecDepth 100000 in
theorem cloneI32_calls (a : Option Addr) (len cap : Nat) (c : Nat → Int) (w : World) (hrow : RowAt .i32 w a len c) (hlen : len ≤ 1048576) :
    Calls Try.prog 15 #[.slice a len cap] w fun e w' => ∃ v, e = .returned v ∧ Cloned .i32 21 w w' a len c v := by
  obtain ⟨i0, hi, hi0, hi1, hi2⟩ := info_parts Try.info21_
  have hnilq := fun (wx : World) (x : Option Addr) (n : Nat) => Lib.run_eql_slice_nil (P := Try.prog) wx 33 21 x n cap 0 0 Try.underlying33
  rcases a with _ | x
  · go_enter Try.func15, Try.ntmps15
    go_wp2
    go_ret
    exact ⟨_, rfl, .inl ⟨rfl, rfl, rfl⟩⟩
  · go_enter Try.func15, Try.ntmps15
    go_wp2_with (first | (at_make; refine wpList_make_full _ rfl (.tmp 8) (.tmp 8) 33 rfl w.heap.size 21 i0 (.int .i32 0) 1 Try.underlying33 hi hi0 hi1 .i64 .i64 _ _ len rfl rfl rfl rfl (by rw [hi2]; omega) (by unfold maxLen; omega) (by omega) ?_; intro w2 hown2 hgrow2))
    have hb2 : Below w.heap.size w w2 := (Below.refl _ _).grown hgrow2 (by omega) (by simp)
    clear hgrow2 hnilq
    have HR : Hid (RowAt .i32 w (some x) len c) := hrow
    clear hrow
    go_loopw [4] (fun i wr => ∃ k : Nat, k ≤ len ∧ i = .int .i64 k ∧ (∃ xs, wr.ownsRow w.heap.size 21 1 (.slice (some ⟨w.heap.size, 0, none⟩) len len) len xs ∧ ∀ j, j < k → xs[j]? = some (.int .i32 (c j))) ∧ Below w.heap.size w wr) (fun i _ => len - (intOf i).toNat)
    case atStart => exact ⟨0, by omega, rfl, ⟨_, hown2, fun j hj => absurd hj (by omega)⟩, hb2⟩
    case round =>
      obtain ⟨k, hk, rfl, ⟨xs, hown, hxs⟩, hb⟩ := hrel
      by_cases hlt : k < len
      · obtain ⟨b, off, hx, hbl, hcs⟩ : ∃ b off, some x = some (⟨b, off, none⟩ : Addr) ∧ b < w.heap.size ∧ ∀ j, j < len → w.cell? ⟨b, off + j, none⟩ = some (.int .i32 (c j)) := by
          rcases HR.out with h | h
          · exact absurd h (by omega)
          · exact h
        obtain rfl : x = ⟨b, off, none⟩ := by simpa using hx
        have hck : wr.cell? ⟨b, off + k, none⟩ = some (.int .i32 (c k)) := by rw [hb.cell (by exact hbl)]; exact hcs k hlt
        have hxl : xs.length = len := by simpa using hown.1
        have hdst : wr.cell? ⟨w.heap.size, k, none⟩ = some (xs[k]'(by omega)) := by rw [hown.cellAt k (by omega)]; exact List.getElem?_eq_getElem (by omega)
        have hfz := hown.frozenAt k
        have HSt : Hid ((wr.setCell ⟨w.heap.size, k, none⟩ (.int .i32 (c k))).ownsRow w.heap.size 21 1 (.slice (some ⟨w.heap.size, 0, none⟩) len len) len (xs.set k (.int .i32 (c k)))) := (hown.stored k _).1
        have HXs : Hid (∀ j, j < k → xs[j]? = some (.int .i32 (c j))) := hxs
        have HB : Hid (Below w.heap.size w wr) := hb
        clear hown hb hxs hown2 hb2 hx hcs
        go_wp2
        go_roundw
        case rel =>
          exact ⟨k + 1, by omega, by go_num, ⟨_, HSt.out, fun j hj => by
            rcases Nat.lt_or_ge j k with h | h
            · rw [List.getElem?_set_ne (by omega)]; exact HXs.out j h
            · obtain rfl : j = k := by omega
              rw [List.getElem?_set_self (by omega)]⟩, HB.out.setCell (Nat.le_refl _) _⟩
        case measure => simp [intOf]; omega
      · obtain rfl : k = len := by omega
        have HO : Hid (wr.ownsRow w.heap.size 21 1 (.slice (some ⟨w.heap.size, 0, none⟩) k k) k xs) := hown
        have HXs : Hid (∀ j, j < k → xs[j]? = some (.int .i32 (c j))) := hxs
        have HB : Hid (Below w.heap.size w wr) := hb
        clear hown hxs hb hown2 hb2
        go_wp2
        go_ret
        have e := cv_of .i32 c k xs (by simpa using HO.out.1) HXs.out
        exact ⟨_, rfl, .inr ⟨by simp, rfl, by rw [← e]; exact HO.out, HB.out⟩⟩


end Go.Proofs.Qxb6001184a
