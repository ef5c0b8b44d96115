/-
  THE ENCODER's FUNCTIONS: dictOp (16), dictAppendBE32 (21), dictAppendInt (17), by contracts.
-/
import Derived.Test.Qxb6001184aClones
import Derived.Deep.DeepCutAuto
namespace Go.Proofs.Qxb6001184a.Dict
open Go.ChangeShapes Go.WideShapes Go.ChangeAt Go.RowKit
set_option linter.unusedVariables false

def bv (l : List Int) : List Value := l.map (Value.int .u8)
theorem bv_app (l m : List Int) : bv (l ++ m) = bv l ++ bv m := by simp [bv]
theorem bv_length (l : List Int) : (bv l).length = l.length := by simp [bv]
theorem bv_cell (l : List Int) : ∀ u ∈ bv l, u.oneCell' = true := by
  intro u hu; simp only [bv, List.mem_map] at hu; obtain ⟨x, _, rfl⟩ := hu; rfl

theorem info5 : (Try.prog.info? 5).map (fun i => (i.zero, i.size, i.bytes)) = some (some (.int .u8 0), 1, 1) := by kernel_rfl

/-- the cells of a literal that has just been laid -/
theorem cell_new (w : World) (l : List Value) (t : TypeId) : ∀ j u, l[j]? = some u → (w.alloc (.cells l.toArray t)).cell? ((⟨w.heap.size, 0, none⟩ : Addr).add j) = some u := by
  intro j u hj
  rw [show (⟨w.heap.size, 0, none⟩ : Addr).add j = ⟨w.heap.size, j, none⟩ by simp [Addr.add]; exact fun e => e.symm, cell_of_row _ _ j l.toArray t (0, 0) (heap_alloc_new w _)]
  simpa using hj

/-- the DICT operator of a drawn number -/
def dop (k : Int) : Int := if k % 277 < 21 then (if k % 277 < 12 then k % 277 else k % 277 + 1) else 1179 + k % 277

theorem ret_int {k : IntKind} {a b : Int} (h : a = b) : Ending.returned (.int k a) = .returned (.int k b) := by rw [h]

theorem dictOp_calls (k : Int) (w : World) (h0 : 0 ≤ k) (h1 : k ≤ 65535) : Calls Try.prog 16 #[.int .u16 k] w fun e w' => e = .returned (.int .i64 (dop k)) ∧ w = w' := by
  by_cases g1 : k % 277 < 21
  · by_cases g2 : k % 277 < 12
    · go_enter Try.func16, Try.ntmps16
      go_wp2
      go_ret
      exact ⟨ret_int (by unfold dop; rw [if_pos g1, if_pos g2]), rfl⟩
    · go_enter Try.func16, Try.ntmps16
      go_wp2
      go_ret
      exact ⟨ret_int (by unfold dop; rw [if_pos g1, if_neg (by omega)]), rfl⟩
  · go_enter Try.func16, Try.ntmps16
    go_wp2
    go_ret
    exact ⟨ret_int (by unfold dop; rw [if_neg (by omega)]; omega), rfl⟩

/-- five bytes -/
def be32L (v : Int) : List Int := [29, v % 4294967296 / 16777216, v % 4294967296 / 65536 % 256, v % 4294967296 / 256 % 256, v % 256]

/-- WHAT AN APPEND WITHIN THE ROOM LEAVES -/
def Grew (base g cap : Nat) (k : Nat) (xs : List Value) (l : List Int) (w w' : World) : Prop :=
  w'.ownsRow base 5 1 (.slice (some ⟨g, 0, none⟩) (k + l.length) cap) (k + l.length) (xs ++ bv l) ∧ w.grownBy w' (some g)

set_option maxHeartbeats 1000000 in
set_option maxRecDepth 100000 in
theorem be32_calls (g k cap base : Nat) (xs : List Value) (v : Int) (w : World) (hown : w.ownsRow base 5 1 (.slice (some ⟨g, 0, none⟩) k cap) k xs) (hfit : k + 5 ≤ cap) (h0 : -2147483648 ≤ v) (h1 : v ≤ 2147483647) :
    Calls Try.prog 21 #[.slice (some ⟨g, 0, none⟩) k cap, .int .i32 v] w fun e w' => e = .returned (.slice (some ⟨g, 0, none⟩) (k + 5) cap) ∧ Grew base g cap k xs (be32L v) w w' := by
  obtain ⟨i0, hi, hi0, hi1, hi2⟩ := info_parts info5
  go_enter Try.func21, Try.ntmps21
  go_wp2_with (first | (at_builtin; refine wpList_append_fits _ rfl (.tmp 8) (.tmp 20) 24 rfl base 5 i0 1 Try.underlying24 hi hi1 g k cap xs rfl (hown.alloc _) ⟨w.heap.size, 0, none⟩ 5 5 (bv (be32L v)) rfl rfl (cell_new _ _ _) (bv_cell _) (by omega) ?_; intro w3 hown3 hgrow3))
  go_ret
  exact ⟨rfl, hown3, (World.grownBy_alloc w _ _).trans hgrow3⟩


/-- an integer operand by the shortest form -/
def encL (v : Int) (wide : Bool) : List Int :=
  if wide then be32L v
  else if -107 ≤ v ∧ v ≤ 107 then [v + 139]
  else if 108 ≤ v ∧ v ≤ 1131 then [247 + (v - 108) / 256, (v - 108) % 256]
  else if -1131 ≤ v ∧ v ≤ -108 then [251 + (-v - 108) / 256, (-v - 108) % 256]
  else if -32768 ≤ v ∧ v ≤ 32767 then [28, v % 65536 / 256 % 256, v % 65536 % 256]
  else be32L v

theorem encL_length (v : Int) (wide : Bool) : (encL v wide).length ≤ 5 := by
  unfold encL
  repeat' split
  all_goals simp [be32L]

theorem wrap_u16 (v : Int) : IntKind.u16.wrap v = v % 65536 := by
  simp [IntKind.wrap, IntKind.signed, IntKind.bits]

set_option maxHeartbeats 2000000 in
set_option maxRecDepth 100000 in
theorem appendInt_calls (g k cap base : Nat) (xs : List Value) (v : Int) (wide : Bool) (w : World) (hown : w.ownsRow base 5 1 (.slice (some ⟨g, 0, none⟩) k cap) k xs) (hfit : k + 5 ≤ cap) (h0 : -2147483648 ≤ v) (h1 : v ≤ 2147483647) :
    Calls Try.prog 17 #[.slice (some ⟨g, 0, none⟩) k cap, .int .i32 v, .bool wide] w fun e w' => e = .returned (.slice (some ⟨g, 0, none⟩) (k + (encL v wide).length) cap) ∧ Grew base g cap k xs (encL v wide) w w' := by
  obtain ⟨i0, hi, hi0, hi1, hi2⟩ := info_parts info5
  cases wide
  case true =>
    rw [show encL v true = be32L v from rfl]
    go_enter Try.func17, Try.ntmps17
    go_wp2_with fail
    refine (be32_calls g k cap base xs v _ hown hfit h0 h1).mono ?_
    rintro e w3 ⟨rfl, hg⟩
    go_wp2
    go_ret
    exact ⟨rfl, hg⟩
  case false =>
    by_cases c1 : -107 ≤ v ∧ v ≤ 107
    · obtain ⟨c1a, c1b⟩ := c1
      rw [show encL v false = [v + 139] by simp [encL, c1a, c1b]]
      go_enter Try.func17, Try.ntmps17
      go_wp2_with (first | (at_builtin; refine wpList_append_fits _ rfl (.tmp 23) (.tmp 27) 24 rfl base 5 i0 1 Try.underlying24 hi hi1 g k cap xs rfl (hown.alloc _) ⟨w.heap.size, 0, none⟩ 1 1 (bv [v + 139]) rfl rfl (cell_new _ _ _) (bv_cell _) (by omega) ?_; intro w3 hown3 hgrow3))
      go_ret
      exact ⟨rfl, hown3, (World.grownBy_alloc w _ _).trans hgrow3⟩
    · by_cases c2 : 108 ≤ v ∧ v ≤ 1131
      · rw [show encL v false = [247 + (v - 108) / 256, (v - 108) % 256] by simp [encL, c1, c2]]
        obtain ⟨c2a, c2b⟩ := c2
        go_enter Try.func17, Try.ntmps17
        go_wp2_with (first | (at_builtin; refine wpList_append_fits _ rfl (.tmp 37) (.tmp 45) 24 rfl base 5 i0 1 Try.underlying24 hi hi1 g k cap xs rfl (hown.alloc _) ⟨w.heap.size, 0, none⟩ 2 2 (bv [247 + (v - 108) / 256, (v - 108) % 256]) rfl rfl (cell_new _ _ _) (bv_cell _) (by omega) ?_; intro w3 hown3 hgrow3))
        go_ret
        exact ⟨rfl, hown3, (World.grownBy_alloc w _ _).trans hgrow3⟩
      · by_cases c3 : -1131 ≤ v ∧ v ≤ -108
        · rw [show encL v false = [251 + (-v - 108) / 256, (-v - 108) % 256] by simp [encL, c1, c2, c3]]
          obtain ⟨c3a, c3b⟩ := c3
          go_enter Try.func17, Try.ntmps17
          go_wp2_with (first | (at_builtin; refine wpList_append_fits _ rfl (.tmp 56) (.tmp 64) 24 rfl base 5 i0 1 Try.underlying24 hi hi1 g k cap xs rfl (hown.alloc _) ⟨w.heap.size, 0, none⟩ 2 2 (bv [251 + (-v - 108) / 256, (-v - 108) % 256]) rfl rfl (cell_new _ _ _) (bv_cell _) (by omega) ?_; intro w3 hown3 hgrow3))
          go_ret
          exact ⟨rfl, hown3, (World.grownBy_alloc w _ _).trans hgrow3⟩
        · by_cases c4 : -32768 ≤ v ∧ v ≤ 32767
          · rw [show encL v false = [28, IntKind.u16.wrap v / 256 % 256, IntKind.u16.wrap v % 256] by simp [encL, c1, c2, c3, c4, wrap_u16]]
            have hor : v < -1131 ∨ 1131 < v := by omega
            obtain ⟨c4a, c4b⟩ := c4
            clear c1 c2 c3
            rcases hor with ho | ho
            · go_enter Try.func17, Try.ntmps17
              go_wp2_with (first | (at_builtin; refine wpList_append_fits _ rfl (.tmp 75) (.tmp 81) 24 rfl base 5 i0 1 Try.underlying24 hi hi1 g k cap xs rfl (hown.alloc _) ⟨w.heap.size, 0, none⟩ 3 3 (bv [28, IntKind.u16.wrap v / 256 % 256, IntKind.u16.wrap v % 256]) rfl rfl (cell_new _ _ _) (bv_cell _) (by omega) ?_; intro w3 hown3 hgrow3))
              go_ret
              exact ⟨rfl, hown3, (World.grownBy_alloc w _ _).trans hgrow3⟩
            · rw [show ([28, IntKind.u16.wrap v / 256 % 256, IntKind.u16.wrap v % 256] : List Int) = [28, v / 256, v % 256] by rw [wrap_u16, show v % 65536 = v by omega, show v / 256 % 256 = v / 256 by omega]]
              go_enter Try.func17, Try.ntmps17
              go_wp2_with (first | (at_builtin; refine wpList_append_fits _ rfl (.tmp 75) (.tmp 81) 24 rfl base 5 i0 1 Try.underlying24 hi hi1 g k cap xs rfl (hown.alloc _) ⟨w.heap.size, 0, none⟩ 3 3 (bv [28, v / 256, v % 256]) rfl rfl (cell_new _ _ _) (bv_cell _) (by omega) ?_; intro w3 hown3 hgrow3))
              go_ret
              exact ⟨rfl, hown3, (World.grownBy_alloc w _ _).trans hgrow3⟩
          · rw [show encL v false = be32L v by simp [encL, c1, c2, c3, c4]]
            have hor : v < -32768 ∨ 32767 < v := by omega
            clear c1 c2 c3 c4
            rcases hor with ho | ho
            all_goals
              go_enter Try.func17, Try.ntmps17
              go_wp2_with fail
              refine (be32_calls g k cap base xs v _ hown hfit h0 h1).mono ?_
              rintro e w3 ⟨rfl, hg⟩
              go_wp2
              go_ret
              exact ⟨rfl, hg⟩

end Go.Proofs.Qxb6001184a.Dict
