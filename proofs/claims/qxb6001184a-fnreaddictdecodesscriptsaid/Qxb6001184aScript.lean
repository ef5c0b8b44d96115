/-
  WHAT THE LAW WRITES, AS TOKENS: they are valid, and they put just what the law expects. (Plain, but for the definitions of the decoder's text.)
-/
import Derived.Test.Qxb6001184aReadDict
namespace Go.Proofs.Qxb6001184a.Dict
open Go.ChangeShapes Go.WideShapes Go.ChangeAt Go.RowKit Go.Maps
set_option linter.unusedVariables false

theorem be32_valid (v : Int) : ValidTok (be32L v) :=
  .inr (.inr (.inr (.inl ⟨_, _, _, _, rfl, by omega, by omega, by omega, by omega, by omega, by omega, by omega, by omega⟩)))
theorem be32_opd (v : Int) (h0 : -2147483648 ≤ v) (h1 : v ≤ 2147483647) : opdOf (be32L v) = v := by
  simp only [be32L, opdOf, wrap32]; omega

theorem encL_valid (v : Int) (wide : Bool) : ValidTok (encL v wide) := by
  unfold encL
  split
  · exact be32_valid v
  split
  · exact .inr (.inr (.inr (.inr (.inr (.inl ⟨_, rfl, by omega, by omega⟩)))))
  split
  · exact .inr (.inr (.inr (.inr (.inr (.inr (.inl ⟨_, _, rfl, by omega, by omega, by omega, by omega⟩))))))
  split
  · exact .inr (.inr (.inr (.inr (.inr (.inr (.inr ⟨_, _, rfl, by omega, by omega, by omega, by omega⟩))))))
  split
  · exact .inr (.inr (.inl ⟨_, _, rfl, by omega, by omega, by omega, by omega⟩))
  · exact be32_valid v

theorem wrap_i16 (v : Int) : IntKind.i16.wrap v = (v + 32768) % 65536 - 32768 := by
  simp only [IntKind.wrap, IntKind.signed, IntKind.bits]
  simp
  split <;> omega

theorem encL_opd (v : Int) (wide : Bool) (h0 : -2147483648 ≤ v) (h1 : v ≤ 2147483647) : opdOf (encL v wide) = v := by
  unfold encL
  split
  · exact be32_opd v h0 h1
  split
  · simp only [opdOf]; rw [if_neg (by omega)]; omega
  split
  · simp only [opdOf]; rw [if_neg (by omega), if_pos (by omega)]; omega
  split
  · simp only [opdOf]; rw [if_neg (by omega), if_neg (by omega)]; omega
  split
  · simp only [opdOf, if_true, wrap_i16]; omega
  · exact be32_opd v h0 h1

theorem encL_put (v : Int) (wide : Bool) (o : Int) : putOf o (encL v wide) = [] := by
  unfold encL
  split
  · rfl
  split
  · simp only [putOf]; rw [if_neg (by omega)]
  split
  · simp only [putOf]; rw [if_neg (by omega)]
  split
  · simp only [putOf]; rw [if_neg (by omega)]
  split
  · rfl
  · rfl

/-- an operator's bytes -/
def opB (op : Int) : List Int := if op < 22 then [op] else [12, op - 1200]
/-- is it an operator? -/
def IsOp (op : Int) : Prop := (0 ≤ op ∧ op ≤ 21 ∧ op ≠ 12) ∨ (1200 ≤ op ∧ op ≤ 1455)
theorem dop_isOp (k : Int) : IsOp (dop k) := by
  unfold dop
  split
  · split
    · exact .inl ⟨by omega, by omega, by omega⟩
    · exact .inl ⟨by omega, by omega, by omega⟩
  · exact .inr ⟨by omega, by omega⟩
theorem opB_valid (op : Int) (h : IsOp op) : ValidTok (opB op) := by
  unfold opB
  rcases h with ⟨h0, h1, h2⟩ | ⟨h0, h1⟩
  · rw [if_pos (by omega)]; exact .inl ⟨_, rfl, h0, h1, h2⟩
  · rw [if_neg (by omega)]; exact .inr (.inl ⟨_, rfl, by omega, by omega⟩)
theorem opB_opd (op : Int) (h : IsOp op) : opdOf (opB op) = 0 := by
  unfold opB
  rcases h with ⟨h0, h1, h2⟩ | ⟨h0, h1⟩
  · rw [if_pos (by omega)]; simp only [opdOf]; rw [if_pos h1]
  · rw [if_neg (by omega)]; simp [opdOf]
theorem opB_put (op o : Int) (h : IsOp op) : putOf o (opB op) = [(op, o)] := by
  unfold opB
  rcases h with ⟨h0, h1, h2⟩ | ⟨h0, h1⟩
  · rw [if_pos (by omega)]; simp only [putOf]; rw [if_pos h1]
  · rw [if_neg (by omega)]; simp [putOf]; omega
theorem opB_length (op : Int) : (opB op).length ≤ 2 := by unfold opB; split <;> simp

/-- the real number's token, or none -/
def realT (b : Bool) : List (List Int) := if b then [[30, 26, 47]] else []
/-- the tokens of one item: its number, a real, its value, a real, its operator -/
def item (i v m op : Int) : List (List Int) := [encL i false] ++ realT (m % 3 == 1) ++ [encL v (m / 3 % 2 == 1)] ++ realT (m % 3 == 2) ++ [opB op]
/-- what is expected of it -/
def want (v m : Int) : Int := if m % 3 == 2 then 0 else v

theorem realT_valid (b : Bool) : ∀ t ∈ realT b, ValidTok t := by
  intro t ht
  cases b
  · simp [realT] at ht
  · simp [realT] at ht; subst ht; exact .inr (.inr (.inr (.inr (.inl rfl))))

theorem item_valid (i v m op : Int) (h : IsOp op) : ∀ t ∈ item i v m op, ValidTok t := by
  intro t ht
  simp only [item, List.mem_append, List.mem_singleton] at ht
  rcases ht with (((ht | ht) | ht) | ht) | ht
  · subst ht; exact encL_valid _ _
  · exact realT_valid _ t ht
  · subst ht; exact encL_valid _ _
  · exact realT_valid _ t ht
  · subst ht; exact opB_valid op h

theorem stAll_app (ts us : List (List Int)) : stAll (ts ++ us) = us.foldl (fun s t => (opdOf t, s.2 ++ putOf s.1 t)) (stAll ts) := by simp [stAll]

theorem item_st (ts : List (List Int)) (i v m op : Int) (h : IsOp op) (h0 : -2147483648 ≤ v) (h1 : v ≤ 2147483647) : stAll (ts ++ item i v m op) = (0, (stAll ts).2 ++ [(op, want v m)]) := by
  rw [stAll_app]
  generalize stAll ts = s
  obtain ⟨o, ps⟩ := s
  have hr : ∀ o, putOf o [30, 26, 47] = [] := fun _ => rfl
  have hr2 : opdOf [30, 26, 47] = 0 := by decide
  have e1 : ∀ (b : Bool) (s : Int × List (Int × Int)), (realT b).foldl (fun s t => (opdOf t, s.2 ++ putOf s.1 t)) s = (if b then 0 else s.1, s.2) := by
    intro b s
    cases b
    · simp [realT]
    · simp [realT, hr, hr2]
  simp only [item, List.foldl_append, List.foldl_cons, List.foldl_nil, e1, encL_put, encL_opd v _ h0 h1, opB_put op _ h, opB_opd op h, List.append_nil, want]

/-- all the tokens of the first k items -/
def toks (c0 c1 m : Nat → Int) : Nat → List (List Int)
  | 0 => []
  | k + 1 => toks c0 c1 m k ++ item (k : Int) (c1 k) (m k) (dop (c0 k))
/-- what they put -/
def puts (c0 c1 m : Nat → Int) : Nat → List (Int × Int)
  | 0 => []
  | k + 1 => puts c0 c1 m k ++ [(dop (c0 k), want (c1 k) (m k))]

theorem toks_valid (c0 c1 m : Nat → Int) (k : Nat) : ∀ t ∈ toks c0 c1 m k, ValidTok t := by
  induction k with
  | zero => intro t ht; simp [toks] at ht
  | succ k ih =>
    intro t ht
    simp only [toks, List.mem_append] at ht
    rcases ht with ht | ht
    · exact ih t ht
    · exact item_valid _ _ _ _ (dop_isOp _) t ht

theorem toks_st (c0 c1 m : Nat → Int) (k : Nat) (hv : ∀ j, j < k → -2147483648 ≤ c1 j ∧ c1 j ≤ 2147483647) : stAll (toks c0 c1 m k) = (0, puts c0 c1 m k) := by
  induction k with
  | zero => rfl
  | succ k ih =>
    have h := hv k (by omega)
    simp only [toks, puts]
    rw [item_st _ _ _ _ _ (dop_isOp _) h.1 h.2, ih (fun j hj => hv j (by omega))]

theorem realT_length (b : Bool) : (realT b).length ≤ 1 ∧ (realT b).flatten.length ≤ 3 := by cases b <;> simp [realT]
theorem real_one (m : Int) : (realT (m % 3 == 1)).flatten.length + (realT (m % 3 == 2)).flatten.length ≤ 3 := by
  by_cases h : m % 3 = 1
  · have h2 : (m % 3 == 2) = false := by simp; omega
    rw [h2]; have := (realT_length (m % 3 == 1)).2; simp [realT] at this ⊢; omega
  · have h2 : (m % 3 == 1) = false := by simp; omega
    rw [h2]; have := (realT_length (m % 3 == 2)).2; simp [realT] at this ⊢; omega

theorem item_length (i v m op : Int) : (item i v m op).flatten.length ≤ 15 ∧ (item i v m op).length ≤ 5 := by
  have a1 := encL_length i false
  have a2 := encL_length v (m / 3 % 2 == 1)
  have a3 := opB_length op
  have a4 := real_one m
  have a5 := (realT_length (m % 3 == 1)).1
  have a6 := (realT_length (m % 3 == 2)).1
  simp only [item, List.flatten_append, List.length_append, List.flatten_cons, List.flatten_nil, List.append_nil, List.length_cons, List.length_nil]
  omega

theorem toks_length (c0 c1 m : Nat → Int) (k : Nat) : (toks c0 c1 m k).flatten.length ≤ 15 * k ∧ (toks c0 c1 m k).length ≤ 5 * k := by
  induction k with
  | zero => simp [toks]
  | succ k ih =>
    have h := item_length (k : Int) (c1 k) (m k) (dop (c0 k))
    simp only [toks, List.flatten_append, List.length_append]
    omega

theorem isMap_dict (ps : List (Int × Int)) : IsMap (dictD ps) := by
  have : ∀ (l : List (Int × Int)) (D : DataW Unit), IsMap D → IsMap (l.foldl (fun D p => D.put (.int .i64 p.1) (.lit (.int .i64 p.2))) D) := by
    intro l
    induction l with
    | nil => intro D h; exact h
    | cons p l ih => intro D h; exact ih _ (h.put _ _)
  exact this ps _ isMap_empty

/-- a key that was put is there -/
theorem has_puts (c0 c1 m : Nat → Int) (n j : Nat) (hj : j < n) : Maps.has (dictD (puts c0 c1 m n)) (.int .i64 (dop (c0 j))) = true := by
  induction n with
  | zero => omega
  | succ n ih =>
    simp only [puts]
    rw [dictD_snoc]
    by_cases h : dop (c0 j) = dop (c0 n)
    · rw [h]; exact has_put_same (isMap_dict _) (by simp [WideAt.IsKeyLit]) _
    · rw [has_put_other (by simpa using h)]
      have : j ≠ n := fun e => h (by rw [e])
      exact ih (by omega)

/-- 'ZZReadDict' -/
theorem zzReadDict_calls (g cap : Nat) (ts : List (List Int)) (w : World) (hval : ∀ t ∈ ts, ValidTok t) (hn : ts.flatten.length ≤ 4194304) (htn : ts.length ≤ 4194304) (hcap : ts.flatten.length ≤ cap)
    (hc : ∀ j, j < ts.flatten.length → w.cell? ⟨g, j, none⟩ = some (.int .u8 (ts.flatten.getD j 0))) (hg : g < w.heap.size) :
    Calls Try.prog 18 #[.slice (some ⟨g, 0, none⟩) ts.flatten.length cap] w fun e w' =>
      e = .returned (.map (some w.heap.size)) ∧ w'.ownsMap Try.prog 3 (plainElem Try.prog 3) w.heap.size ts.length (dictD (stAll ts).2) ∧ Below w.heap.size w w' := by
  have H := readDict_calls g cap ts w hval hn htn hcap hc hg
  have HH : Hid (Calls Try.prog 22 #[.slice (some ⟨g, 0, none⟩) ts.flatten.length cap] w fun e w' =>
      e = .returned (.map (some w.heap.size)) ∧ w'.ownsMap Try.prog 3 (plainElem Try.prog 3) w.heap.size ts.length (dictD (stAll ts).2) ∧ Below w.heap.size w w') := H
  clear H hc hn htn hcap hval
  generalize ts.flatten.length = N at *
  go_enter Try.func18, Try.ntmps18
  go_wp2_with fail
  refine HH.out.mono ?_
  rintro e w1 ⟨rfl, h1, h2⟩
  go_wp2
  go_ret
  exact ⟨rfl, h1, h2⟩

end Go.Proofs.Qxb6001184a.Dict
