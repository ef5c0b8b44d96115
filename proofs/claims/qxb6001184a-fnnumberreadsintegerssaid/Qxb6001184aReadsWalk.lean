/-
  Law 'FnNumberReadsIntegers' (function 3): the walk.
-/
import Derived.Test.Qxb6001184aNumber
import Derived.ShutString
import Derived.ChangeOld
import Derived.Deep.DeepCutAuto
namespace Go.Proofs.Qxb6001184a.fnNumberReadsIntegers
open Go.ChangeShapes Go.WideShapes Go.ChangeAt Go.RowKit
open Plain
set_option linter.unusedVariables false

/-- The array of digits, behind k rounds: the last k of its twenty cells hold U's last k digits; it is the one block more; nothing else has turned. -/
structure DigsAt (w wr : World) (U : Int) (k : Nat) : Prop where
  row : ∃ cur : Array Value, wr.heap[w.heap.size]? = some (.cells cur 23 (0, 0)) ∧ cur.size = 20 ∧ ∀ i, i < k → cur[19 - i]? = some (.int .u8 (dgt U i))
  size : wr.heap.size = w.heap.size + 1
  below : Below w.heap.size w wr

theorem DigsAt.start (w : World) (U : Int) (cs : Array Value) (h : cs.size = 20) : DigsAt w (w.alloc (.cells cs 23)) U 0 :=
  ⟨⟨cs, heap_alloc_new w _, h, fun i hi => absurd hi (by omega)⟩, by simp, (Below.refl _ _).alloc (Nat.le_refl _) _⟩

theorem DigsAt.there {w wr : World} {U : Int} {k : Nat} (h : DigsAt w wr U k) (j : Nat) (hj : j < 20) : ∃ v, wr.cell? ⟨w.heap.size, j, none⟩ = some v := by
  obtain ⟨cur, hh, hs, _⟩ := h.row
  exact ⟨cur[j]'(by omega), by rw [cell_of_row wr _ j cur 23 (0, 0) hh]; simp [hs, hj]⟩

theorem DigsAt.free {w wr : World} {U : Int} {k : Nat} (h : DigsAt w wr U k) (j : Nat) : wr.frozen? ⟨w.heap.size, j, none⟩ = false := by
  obtain ⟨cur, hh, hs, _⟩ := h.row
  exact frozen_of_row wr _ j cur 23 hh

theorem DigsAt.digit {w wr : World} {U : Int} {k : Nat} (h : DigsAt w wr U k) (i : Nat) (hi : i < k) : wr.cell? ⟨w.heap.size, 19 - i, none⟩ = some (.int .u8 (dgt U i)) := by
  obtain ⟨cur, hh, hs, hd⟩ := h.row
  rw [cell_of_row wr _ _ cur 23 (0, 0) hh]; exact hd i hi

theorem DigsAt.step {w wr : World} {U : Int} {k : Nat} (h : DigsAt w wr U k) (hk : k < 20) : DigsAt w (wr.setCell ⟨w.heap.size, 19 - k, none⟩ (.int .u8 (dgt U k))) U (k + 1) := by
  obtain ⟨⟨cur, hh, hs, hd⟩, hz, hb⟩ := h
  refine ⟨⟨cur.setIfInBounds (19 - k) (.int .u8 (dgt U k)), heap_setCell_same wr _ _ cur 23 _ hh, by simpa using hs, fun i hi => ?_⟩, by simpa [World.setCell] using hz, hb.setCell (Nat.le_refl _) _⟩
  rcases Nat.lt_or_ge i k with hik | hik
  · rw [Array.getElem?_setIfInBounds_ne (by omega)]; exact hd i hik
  · obtain rfl : i = k := by omega
    simp [Array.getElem?_setIfInBounds, hs]; omega


theorem Try.info5 : (Try.prog.info? 5).map (fun i => (i.zero, i.size, i.bytes)) = some (some (.int .u8 0), 1, 1) := by kernel_rfl

/-- bytes as cells -/
def bv (l : List Int) : List Value := l.map (Value.int .u8)
theorem bv_app (l m : List Int) : bv (l ++ m) = bv l ++ bv m := by simp [bv]
theorem bv_one (x : Int) : bv [x] = [.int .u8 x] := rfl
theorem bv_cell (l : List Int) : ∀ u ∈ bv l, u.oneCell' = true := by
  intro u hu; simp only [bv, List.mem_map] at hu; obtain ⟨x, _, rfl⟩ := hu; rfl

/-- the sign that is written ahead of the digits -/
def SignOk (a0 : Int) (pre : List Int) : Prop := (pre = [] ∧ 0 ≤ a0) ∨ (pre = [43] ∧ 0 ≤ a0) ∨ (pre = [45] ∧ a0 < 0)

theorem wrap_u64 (a : Int) (h0 : 0 ≤ a) (h1 : a < 1000000000000000000) : IntKind.u64.wrap a = a := by
  simp [IntKind.wrap, IntKind.signed, IntKind.bits]; omega

theorem slice_digs (B Q : Nat) (hQ : Q < 20) (wx : World) :
    (Instr.sliceAt 23 (.pointer (some ⟨B, 0, none⟩)) (some (.int .i64 (Q : Int))) none none).run Try.prog wx = .ok (.slice (some ⟨B, Q, none⟩) (20 - Q) (20 - Q)) wx := by
  have hu : Try.prog.underlying 23 = some (.array (Try.prog.arrayLen 23) (Try.prog.elem 23)) := by kernel_rfl
  have hl : Try.prog.arrayLen 23 = 20 := by kernel_rfl
  have he : Try.prog.elem 23 = 5 := by kernel_rfl
  have hz : (sizeOf 5).run Try.prog wx = .ok 1 wx := by kernel_rfl
  have h20 : ¬ 20 = Q := by omega
  rw [run_sliceAt_array_l wx 23 _ hu .i64 (Q : Int) (by omega) (by rw [hl]; omega), hl, he, hz]
  simp [Result.andThen, slicedAt, Addr.add, h20]
  exact fun e => e.symm

/-- the digits of U, the first one first -/
def digL (U : Int) (k : Nat) : List Int := (List.range k).map fun i => dgt U (k - 1 - i)
theorem digL_length (U : Int) (k : Nat) : (digL U k).length = k := by simp [digL]
theorem digL_get (U : Int) (k j : Nat) (h : j < k) : (digL U k)[j]? = some (dgt U (k - 1 - j)) := by simp [digL, h]

/-- what is appended: the digits as they lie in the array -/
theorem news_digs {w w1 wr : World} {U : Int} {Q : Nat} (hQ : Q ≤ 19) (hd : DigsAt w w1 U (20 - Q)) (hb : Below (w.heap.size + 1) w1 wr) :
    ∀ j u, (bv (digL U (20 - Q)))[j]? = some u → wr.cell? ((⟨w.heap.size, Q, none⟩ : Addr).add j) = some u := by
  intro j u hj
  have hjk : j < 20 - Q := by
    rcases Nat.lt_or_ge j (20 - Q) with h | h
    · exact h
    · rw [List.getElem?_eq_none (by simpa [bv, digL_length] using h)] at hj; exact absurd hj (by simp)
  simp only [bv, List.getElem?_map, digL_get U _ j hjk, Option.map_some, Option.some.injEq] at hj
  subst hj
  have e : ((⟨w.heap.size, Q, none⟩ : Addr).add j) = ⟨w.heap.size, 19 - (20 - Q - 1 - j), none⟩ := by
    rw [show 19 - (20 - Q - 1 - j) = Q + j by omega]; simp [Addr.add]
  rw [e, hb.cell (by simp)]
  exact hd.digit _ (by omega)

/-- 'ZZNumber' at what the law has written. -/
theorem call_reads (a0 U : Int) (pre : List Int) (J k B cap base : Nat) (hsign : SignOk a0 pre) (hU : ((0 ≤ a0 ∧ a0 ≤ U) ∨ (a0 < 0 ∧ -a0 ≤ U)) ∧ ((0 ≤ a0 ∧ U ≤ a0) ∨ (a0 < 0 ∧ U ≤ -a0)))
    (hk : 1 ≤ k) (hJk : J + k ≤ 18) (hdiv : U / 10 ^ k = 0) (w6 : World)
    (hown : w6.ownsRow base 5 1 (.slice (some ⟨B, 0, none⟩) (pre.length + J + k) cap) (pre.length + J + k) (bv (pre ++ List.replicate J 48) ++ bv (digL U k))) :
    Calls Try.prog 8 #[.slice (some ⟨B, 0, none⟩) (pre.length + J + k) cap] w6 fun e w' => e = .returned (.tuple #[.int .i64 a0, .float .f64 0, .bool true]) ∧ Below w6.heap.size w6 w' := by
  obtain ⟨L, hL⟩ : ∃ L, L = pre ++ List.replicate J 48 ++ digL U k := ⟨_, rfl⟩
  have hlen : L.length = pre.length + J + k := by rw [hL]; simp [digL_length]; omega
  have hown' : w6.ownsRow base 5 1 (.slice (some ⟨B, 0, none⟩) (pre.length + J + k) cap) (pre.length + J + k) (bv L) := by rw [hL, bv_app]; exact hown
  have hB : B < w6.heap.size := by
    rcases hown'.2 with ⟨h', _⟩ | ⟨g', cap', cur, h', _, hg, _⟩
    · simp at h'
    · simp only [Value.slice.injEq, Option.some.injEq, Addr.mk.injEq, and_true] at h'
      have := lt_of_block hg
      omega
  have hcell : ∀ j, j < pre.length + J + k → w6.cell? ⟨B, j, none⟩ = some (.int .u8 (L.getD j 0)) := by
    intro j hj
    rw [hown'.cellAt j (by omega)]
    simp only [bv, List.getElem?_map]
    rw [List.getElem?_eq_getElem (by omega)]
    simp [List.getD, hlen, hj]
  have hz : ∀ j, j < J → L.getD (pre.length + j) 0 = 48 := by
    intro j hj
    rw [hL, List.append_assoc, List.getD, List.getElem?_append_right (by omega), List.getElem?_append_left (by simp; omega)]
    simp [hj]
  have hdg : ∀ j, j < k → L.getD (pre.length + J + j) 0 = dgt U (k - 1 - j) := by
    intro j hj
    have hpl : (pre ++ List.replicate J (48 : Int)).length = pre.length + J := by simp
    rw [hL, List.getD, List.getElem?_append_right (by omega), hpl, show pre.length + J + j - (pre.length + J) = j by omega, digL_get U k j hj]
    rfl
  have hv : hvf (fun j => L.getD j 0) pre.length (J + k) = U := hvf_digits U _ _ J k hdiv hz hdg
  have hdig : ∀ j, j < pre.length + J + k - pre.length → 48 ≤ L.getD (pre.length + j) 0 ∧ L.getD (pre.length + j) 0 ≤ 57 := by
    intro j hj
    rcases Nat.lt_or_ge j J with h | h
    · rw [hz j h]; omega
    · obtain ⟨i, rfl⟩ : ∃ i, j = J + i := ⟨j - J, by omega⟩
      rw [← Nat.add_assoc, hdg i (by omega)]
      exact dgt_range U _
  have hp1 : pre.length ≤ 1 := by rcases hsign with ⟨rfl, _⟩ | ⟨rfl, _⟩ | ⟨rfl, _⟩ <;> simp
  have hnum := number_int B (pre.length + J + k) cap pre.length (decide (a0 < 0)) (fun j => L.getD j 0) w6 (by
    rcases hsign with ⟨rfl, h⟩ | ⟨rfl, h⟩ | ⟨rfl, h⟩
    · exact .inl ⟨rfl, by simp; omega, (hdig 0 (by simp; omega)).1⟩
    · exact .inr (.inl ⟨rfl, by simp; omega, by rw [hL]; rfl⟩)
    · exact .inr (.inr ⟨rfl, by simpa using h, by rw [hL]; rfl⟩)) (by omega) (by omega) hdig hcell hB
  have hval : (if decide (a0 < 0) = true then - hvf (fun j => L.getD j 0) pre.length (pre.length + J + k - pre.length) else hvf (fun j => L.getD j 0) pre.length (pre.length + J + k - pre.length)) = a0 := by
    rw [show pre.length + J + k - pre.length = J + k by omega, hv]
    by_cases h : a0 < 0
    · simp [h]; omega
    · simp [h]; omega
  rw [hval] at hnum
  exact zz_of _ _ _ a0 0 true w6 hnum

set_option maxHeartbeats 2000000 in
set_option maxRecDepth 100000 in
theorem walk_in (a0 U : Int) (a1 : Bool) (z0 : Int) (hU : 0 ≤ U) (hUa : (0 ≤ a0 ∧ a0 ≤ U) ∨ (a0 < 0 ∧ -a0 ≤ U)) (hUb : (0 ≤ a0 ∧ U ≤ a0) ∨ (a0 < 0 ∧ U ≤ -a0)) (hU2 : U < 1000000000000000000) (hz0 : 0 ≤ z0) (hz1 : z0 ≤ 255) (w : World) :
    Calls Try.prog 3 #[.int .i64 a0, .bool a1, .int .u8 z0] w fun e w' => e = .returned (.bool true) ∧ Below w.heap.size w w' := by
  obtain ⟨i0, hi, hi0, hi1, hi2⟩ := info_parts Try.info5
  have ha : -1000000000000000000 < a0 ∧ a0 < 1000000000000000000 := by omega
  have HU : Hid (((0 ≤ a0 ∧ a0 ≤ U) ∨ (a0 < 0 ∧ -a0 ≤ U)) ∧ ((0 ≤ a0 ∧ U ≤ a0) ∨ (a0 < 0 ∧ U ≤ -a0))) := ⟨hUa, hUb⟩
  clear hUa hUb
  go_enter Try.func3, Try.ntmps3
  go_upto_if 26 with (fail)
  go_cut [7] (fun u wc => u = .int .u64 U ∧ w = wc)
  case first =>
    by_cases hn : a0 < 0
    · obtain rfl : a0 = -U := by have := HU.out; omega
      go_wp2
      go_meet
      case rel => exact ⟨rfl, rfl⟩
    · obtain rfl : a0 = U := by have := HU.out; omega
      go_wp2
      go_meet
      case rel => exact ⟨by rw [wrap_u64 _ (by omega) (by omega)], rfl⟩
  case rest =>
  obtain ⟨rfl, rfl⟩ := hcut
  go_wp2
  go_loopw [7, 9] (fun u p wr => ∃ Q : Nat, 1 ≤ Q ∧ Q ≤ 19 ∧ u = .int .u64 (U / 10 ^ (19 - Q)) ∧ p = .int .i64 ((Q : Int) + 1) ∧ (Q = 19 ∨ ¬ U / 10 ^ (19 - Q) = 0) ∧ DigsAt w wr U (19 - Q)) (fun _ p _ => (intOf p).toNat)
  case atStart => exact ⟨19, by omega, by omega, by simp, rfl, .inl rfl, DigsAt.start _ U _ (by rfl)⟩
  case round =>
    obtain ⟨Q, hQ1, hQ2, rfl, rfl, hQ, hdig⟩ := hrel
    obtain ⟨v0, hv0⟩ := hdig.there Q (by omega)
    have hfz := hdig.free Q
    have hVb := div_pow_bounds U (by omega) (19 - Q)
    have HDg : Hid (48 + U / 10 ^ (19 - Q) % 10 = dgt U (19 - Q)) := rfl
    have HSt : Hid (DigsAt w (wr.setCell ⟨w.heap.size, 19 - (19 - Q), none⟩ (.int .u8 (dgt U (19 - Q)))) U (19 - Q + 1)) := hdig.step (by omega)
    have HDi : Hid (U / 10 ^ (19 - Q + 1) = U / 10 ^ (19 - Q) / 10) := div_pow_succ U (19 - Q)
    rw [show 19 - (19 - Q) = Q by omega] at HSt
    have hQ2' : Q = 1 → U / 10 ^ (19 - Q) = 0 := fun e => by subst e; exact div_pow18 U (by omega) hU2
    have hQ3 : 2 ≤ Q := by omega
    have hsz := hdig.size
    clear hdig hQ2' hQ
    generalize hV : U / 10 ^ (19 - Q) = V at *
    clear hV
    by_cases hlast : V / 10 = 0
    · have hl' : (V / 10 == 0) = true := by simp [hlast]
      rw [hlast] at HDi
      rw [← HDg.out] at HSt
      clear hlast
      rw [show 19 - Q + 1 = 20 - Q by omega] at HSt HDi
      go_upto_if 50 with (fail)
      go_cut [11] (fun z wx => ∃ Z : Nat, Z + (20 - Q) ≤ 18 ∧ z = .int .i64 Z ∧ DigsAt w wx U (20 - Q))
      case first =>
        by_cases hzc : 18 < z0 % 19 + (20 - (Q : Int))
        · go_wp2
          go_meet
          case rel => exact ⟨Q - 2, by omega, by go_num, HSt.out⟩
        · go_wp2
          go_meet
          case rel => exact ⟨(z0 % 19).toNat, by omega, by go_num, HSt.out⟩
      case rest =>
        obtain ⟨Z, hZ, rfl, hdig⟩ := hcut
        obtain ⟨w1, hw1⟩ : ∃ w1, w1 = wc := ⟨_, rfl⟩
        subst hw1
        clear HSt hl' hv0 hfz hsz HDg hVb
        have hsz := hdig.size
        have HDG : Hid (DigsAt w w1 U (20 - Q)) := hdig
        clear hdig
        go_upto_if 59 with (first | (at_make; refine wpList_make_own _ rfl (.const (.int .i64 0)) (.tmp 56) 24 rfl (w.heap.size + 1) 5 i0 (.int .u8 0) 1 Try.underlying24 hi hi0 hi1 .i64 .i64 _ (1 + Z + (20 - Q)) rfl rfl (by omega) (by rw [hi2]; omega) (by unfold maxLen; omega) (by rw [hsz]; omega) ?_; intro w2 hown2 hgrow2))
        rw [hsz] at hown2
        have hb2 : Below (w.heap.size + 1) w1 w2 := (Below.refl _ _).grown hgrow2 (by omega) (by simp)
        have hs2 : w.heap.size + 1 < w2.heap.size := by
          rcases hown2.2 with ⟨h', _⟩ | ⟨g', cap', cur, h', _, hg, _⟩
          · simp at h'
          · simp only [Value.slice.injEq, Option.some.injEq, Addr.mk.injEq, and_true] at h'
            have := lt_of_block hg
            omega
        clear hgrow2
        generalize hcap : 1 + Z + (20 - Q) = cap at *
        have HCap : Hid (1 + Z + (20 - Q) = cap) := hcap
        clear hcap
        go_cut [12] (fun b wx => ∃ pre : List Int, SignOk a0 pre ∧ b = .slice (some ⟨w.heap.size + 1, 0, none⟩) pre.length cap ∧ wx.ownsRow (w.heap.size + 1) 5 1 (.slice (some ⟨w.heap.size + 1, 0, none⟩) pre.length cap) pre.length (bv pre) ∧ Below (w.heap.size + 1) w1 wx)
        case first =>
          by_cases hn : a0 < 0
          · go_wp2_with (first | (at_builtin; refine wpList_append_fits _ rfl (.tmp 60) (.tmp 61) 24 rfl (w.heap.size + 1) 5 i0 1 Try.underlying24 hi hi1 (w.heap.size + 1) 0 cap [] rfl (hown2.alloc _) ⟨w2.heap.size, 0, none⟩ 1 1 [.int .u8 45] rfl rfl (cell_one_new _ _ _) (bv_cell [45]) (by have := HCap.out; omega) ?_; intro w3 hown3 hgrow3))
            have hb3 : Below (w.heap.size + 1) w1 w3 := (hb2.alloc (by omega) _).grown hgrow3 (by simp; omega) (by simp)
            clear hgrow3
            go_meet
            case rel => exact ⟨[45], .inr (.inr ⟨rfl, hn⟩), rfl, hown3, hb3⟩
          · cases a1
            · go_wp2
              go_meet
              case rel => exact ⟨[], .inl ⟨rfl, by omega⟩, rfl, hown2, hb2⟩
            · go_wp2_with (first | (at_builtin; refine wpList_append_fits _ rfl (.tmp 64) (.tmp 65) 24 rfl (w.heap.size + 1) 5 i0 1 Try.underlying24 hi hi1 (w.heap.size + 1) 0 cap [] rfl (hown2.alloc _) ⟨w2.heap.size, 0, none⟩ 1 1 [.int .u8 43] rfl rfl (cell_one_new _ _ _) (bv_cell [43]) (by have := HCap.out; omega) ?_; intro w3 hown3 hgrow3))
              have hb3 : Below (w.heap.size + 1) w1 w3 := (hb2.alloc (by omega) _).grown hgrow3 (by simp; omega) (by simp)
              clear hgrow3
              go_meet
              case rel => exact ⟨[43], .inr (.inl ⟨rfl, by omega⟩), rfl, hown3, hb3⟩
        case rest =>
        obtain ⟨pre, hsign, rfl, hown3, hb3⟩ := hcut
        have HSign : Hid (SignOk a0 pre) := hsign
        have hp1 : pre.length ≤ 1 := by rcases hsign with ⟨rfl, _⟩ | ⟨rfl, _⟩ | ⟨rfl, _⟩ <;> simp
        clear hsign hown2 hb2 hs2
        go_wp2
        go_loopw [12, 13] (fun b j wr => ∃ J : Nat, J ≤ Z ∧ j = .int .i64 J ∧ b = .slice (some ⟨w.heap.size + 1, 0, none⟩) (pre.length + J) cap ∧ wr.ownsRow (w.heap.size + 1) 5 1 (.slice (some ⟨w.heap.size + 1, 0, none⟩) (pre.length + J) cap) (pre.length + J) (bv (pre ++ List.replicate J 48)) ∧ Below (w.heap.size + 1) w1 wr) (fun _ j _ => Z - (intOf j).toNat)
        case atStart => exact ⟨0, by omega, rfl, rfl, by simpa using hown3, hb3⟩
        case round =>
          obtain ⟨J, hJ, rfl, rfl, hown4, hb4⟩ := hrel
          have hs4 := hb4.size
          by_cases hlt : J < Z
          · go_wp2_with (first | (at_builtin; refine wpList_append_fits _ rfl (.tmp 72) (.tmp 73) 24 rfl (w.heap.size + 1) 5 i0 1 Try.underlying24 hi hi1 (w.heap.size + 1) (pre.length + J) cap _ rfl (hown4.alloc _) ⟨_, 0, none⟩ 1 1 [.int .u8 48] rfl rfl (cell_one_new _ _ _) (bv_cell [48]) (by have := HCap.out; omega) ?_; intro w5 hown5 hgrow5))
            have hb5 : Below (w.heap.size + 1) w1 w5 := (hb4.alloc (by omega) _).grown hgrow5 (by simp; omega) (by simp)
            clear hgrow5 hb4 hown4
            go_roundw
            case rel => exact ⟨J + 1, by omega, by go_num, rfl, by rw [List.replicate_succ', ← List.append_assoc, bv_app, bv_one]; exact hown5, hb5⟩
            case measure => simp [intOf]; omega
          · obtain rfl : J = Z := by omega
            have hsl := slice_digs w.heap.size Q (by omega)
            have hdl := digL_length U (20 - Q)
            have HNews : Hid (∀ j u, (bv (digL U (20 - Q)))[j]? = some u → wr.cell? ((⟨w.heap.size, Q, none⟩ : Addr).add j) = some u) := news_digs (by omega) HDG.out hb4
            go_wp2_with (first | (at_builtin; refine wpList_append_fits _ rfl (.tmp 75) (.tmp 77) 24 rfl (w.heap.size + 1) 5 i0 1 Try.underlying24 hi hi1 (w.heap.size + 1) (pre.length + J) cap _ rfl hown4 ⟨w.heap.size, Q, none⟩ (20 - Q) (20 - Q) (bv (digL U (20 - Q))) rfl (by simp [bv, hdl]) HNews.out (bv_cell _) (by have := HCap.out; omega) ?_; intro w6 hown6 hgrow6))
            have hb6 : Below (w.heap.size + 1) w1 w6 := hb4.grown hgrow6 (by omega) (by simp)
            clear hgrow6 hb4 hown4 hb3 hown3
            refine (call_reads a0 U pre J (20 - Q) (w.heap.size + 1) cap (w.heap.size + 1) HSign.out HU.out (by omega) (by omega) HDi.out w6 hown6).mono ?_
            rintro e w7 ⟨rfl, hb7⟩
            have hf : (FloatKind.f64.format.order 0 0 == some Ordering.eq) = true := by kernel_rfl
            have HB : Hid (Below w.heap.size w w7) := (HDG.out.below.trans (hb6.mono (by omega))).trans (hb7.mono (by have := hb6.size; omega))
            clear hb6 hb7 hown6
            go_wp2
            go_ret
            exact ⟨rfl, HB.out⟩
    · have hl' : (V / 10 == 0) = false := by simp [hlast]
      rw [← HDg.out] at HSt
      clear HDg
      go_wp2
      go_roundw
      case rel =>
        obtain ⟨R, rfl⟩ : ∃ R, Q = R + 1 := ⟨Q - 1, by omega⟩
        rw [show 19 - (R + 1) + 1 = 19 - R by omega] at HSt HDi
        exact ⟨R, by omega, by omega, by rw [HDi.out], by go_num, .inr (by rw [HDi.out]; exact hlast), HSt.out⟩
      case measure => simp [intOf]

end Go.Proofs.Qxb6001184a.fnNumberReadsIntegers
