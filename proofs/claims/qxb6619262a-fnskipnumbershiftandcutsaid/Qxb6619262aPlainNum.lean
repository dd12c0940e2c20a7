/-
  PLAIN LAWS of the skip functions: lists of integers, no Go in sight.
-/
namespace Go.Proofs.Qxb6619262a.Plain

/-! ### digits and numbers -/
def digs : List Int → Nat
  | [] => 0
  | c :: r => if 48 ≤ c ∧ c ≤ 57 then digs r + 1 else 0

theorem digs_le (l : List Int) : digs l ≤ l.length := by
  induction l with
  | nil => simp [digs]
  | cons c r ih => unfold digs; split <;> simp <;> omega

theorem digs_lt {l : List Int} {k : Nat} (h : k < digs l) : 48 ≤ l.getD k 0 ∧ l.getD k 0 ≤ 57 := by
  induction l generalizing k with
  | nil => simp [digs] at h
  | cons c r ih =>
    unfold digs at h
    split at h
    · rename_i hc
      match k with
      | 0 => simpa using hc
      | k + 1 => simpa using ih (by omega)
    · omega

theorem digs_stop {l : List Int} (h : digs l < l.length) : ¬ (48 ≤ l.getD (digs l) 0 ∧ l.getD (digs l) 0 ≤ 57) := by
  induction l with
  | nil => simp at h
  | cons c r ih =>
    unfold digs at h ⊢
    split
    · rename_i hc
      rw [if_pos hc] at h
      simpa using ih (by simpa using h)
    · rename_i hc
      simpa using hc

theorem digs_take (l : List Int) (m : Nat) : digs (l.take m) = min (digs l) m := by
  induction l generalizing m with
  | nil => simp [digs]
  | cons c r ih =>
    match m with
    | 0 => simp [digs]
    | m + 1 =>
      rw [List.take_succ_cons]
      unfold digs
      split
      · rw [ih]; omega
      · simp

/-- One digit or more: how many. -/
def digs1 (l : List Int) : Option Nat := if digs l = 0 then none else some (digs l)
def signN (l : List Int) : Nat := if l[0]? = some 45 then 1 else 0
def intN (l : List Int) : Option Nat := match l[0]? with
  | none => none
  | some c => if c = 48 then some 1 else digs1 l
def fracN (l : List Int) : Option Nat := if l[0]? = some 46 then (digs1 (l.drop 1)).map (· + 1) else some 0
def esgnN (l : List Int) : Nat := if l[0]? = some 43 ∨ l[0]? = some 45 then 1 else 0
def expN (l : List Int) : Option Nat :=
  if l[0]? = some 101 ∨ l[0]? = some 69 then (digs1 (l.drop (1 + esgnN (l.drop 1)))).map (· + (1 + esgnN (l.drop 1))) else some 0
/-- The bytes that a number at the head of l takes. -/
def num (l : List Int) : Option Nat :=
  (intN (l.drop (signN l))).bind fun a => (fracN (l.drop (signN l + a))).bind fun b => (expN (l.drop (signN l + a + b))).map fun c => signN l + a + b + c

theorem digs1_some {l : List Int} {m : Nat} (h : digs1 l = some m) : 0 < m ∧ m = digs l ∧ m ≤ l.length := by
  unfold digs1 at h
  have := digs_le l
  split at h
  · cases h
  · injection h with h; omega

theorem digs1_take {l : List Int} {m M : Nat} (h : digs1 l = some m) (hM : m ≤ M) : digs1 (l.take M) = some m := by
  obtain ⟨h0, h1, _⟩ := digs1_some h
  unfold digs1
  rw [digs_take, if_neg (by omega)]
  congr 1; omega

theorem get0_take {l : List Int} {M : Nat} (hM : 0 < M) : (l.take M)[0]? = l[0]? := by
  rw [List.getElem?_take, if_pos hM]

theorem some_len {l : List Int} {c : Int} (h : l[0]? = some c) : 1 ≤ l.length := by
  cases l with
  | nil => simp at h
  | cons => simp

theorem intN_some {l : List Int} {m : Nat} (h : intN l = some m) : 0 < m ∧ m ≤ l.length ∧ ∀ M, m ≤ M → intN (l.take M) = some m := by
  unfold intN at h
  split at h
  · cases h
  · rename_i c hc
    have hl := some_len hc
    split at h
    · rename_i h8
      injection h with h
      refine ⟨by omega, by omega, fun M hM => ?_⟩
      unfold intN
      rw [get0_take (by omega), hc]
      simp [h8, h]
    · rename_i h8
      obtain ⟨h0, h1, h2⟩ := digs1_some h
      refine ⟨h0, h2, fun M hM => ?_⟩
      unfold intN
      rw [get0_take (by omega), hc]
      simp only [h8, if_false]
      exact digs1_take h hM

theorem fracN_some {l : List Int} {m : Nat} (h : fracN l = some m) : m ≤ l.length ∧ ∀ M, m ≤ M → fracN (l.take M) = some m := by
  unfold fracN at h
  split at h
  · rename_i hc
    have hl := some_len hc
    cases hd : digs1 (l.drop 1) with
    | none => rw [hd] at h; cases h
    | some d =>
      rw [hd] at h
      have h : d + 1 = m := by simpa using h
      obtain ⟨h0, h1, h2⟩ := digs1_some hd
      rw [List.length_drop] at h2
      refine ⟨by omega, fun M hM => ?_⟩
      unfold fracN
      rw [get0_take (by omega), if_pos hc, List.drop_take, digs1_take hd (by omega)]
      simp [h]
  · rename_i hc
    injection h with h
    refine ⟨by omega, fun M hM => ?_⟩
    unfold fracN
    by_cases hM0 : M = 0
    · subst hM0; simp only [List.take_zero]; simp [h]
    · rw [get0_take (by omega), if_neg hc]; simp [h]

theorem expN_some {l : List Int} {m : Nat} (h : expN l = some m) : m ≤ l.length ∧ ∀ M, m = M → expN (l.take M) = some m := by
  unfold expN at h
  split at h
  · rename_i hc
    cases hd : digs1 (l.drop (1 + esgnN (l.drop 1))) with
    | none => rw [hd] at h; cases h
    | some d =>
      rw [hd] at h
      have h : d + (1 + esgnN (l.drop 1)) = m := by simpa only [Option.map_some, Option.some.injEq] using h
      obtain ⟨h0, h1, h2⟩ := digs1_some hd
      rw [List.length_drop] at h2
      refine ⟨by omega, fun M hM => ?_⟩
      have es : esgnN ((l.take M).drop 1) = esgnN (l.drop 1) := by
        unfold esgnN; rw [List.drop_take, get0_take (by omega)]
      unfold expN
      rw [get0_take (by omega), if_pos hc, es, List.drop_take, digs1_take hd (by omega)]
      simp only [Option.map_some, h]
  · rename_i hc
    injection h with h
    refine ⟨by omega, fun M hM => ?_⟩
    subst hM
    subst h
    simp [expN]

/-- THE CUT: a number that takes m bytes takes m bytes of the text cut off behind it. -/
theorem num_cut {l : List Int} {m : Nat} (h : num l = some m) : 0 < m ∧ m ≤ l.length ∧ num (l.take m) = some m := by
  unfold num at h
  obtain ⟨a, ha, h⟩ := Option.bind_eq_some_iff.1 h
  obtain ⟨b, hb, h⟩ := Option.bind_eq_some_iff.1 h
  obtain ⟨c, hc, h⟩ := Option.map_eq_some_iff.1 h
  obtain ⟨a0, a1, a2⟩ := intN_some ha
  obtain ⟨b1, b2⟩ := fracN_some hb
  obtain ⟨c1, c2⟩ := expN_some hc
  rw [List.length_drop] at a1 b1 c1
  have sl : signN l ≤ 1 := by unfold signN; split <;> omega
  have hm : signN l + a + b + c = m := h
  have es : signN (l.take m) = signN l := by unfold signN; rw [get0_take (by omega)]
  refine ⟨by omega, by omega, ?_⟩
  unfold num
  rw [es, List.drop_take, a2 _ (by omega)]
  simp only [Option.bind_some]
  rw [List.drop_take, b2 _ (by omega)]
  simp only [Option.bind_some]
  rw [List.drop_take, c2 _ (by omega)]
  simp [hm]

/-- What skipNumber answers. -/
def numAt (zs : List Int) (i : Nat) : Int := match num (zs.drop i) with | none => -1 | some m => (i : Int) + m
/-- What it answers from the exponent on, from the fraction on, from the integer part on. -/
def expAt (zs : List Int) (k : Nat) : Int := match expN (zs.drop k) with | none => -1 | some c => (k : Int) + c
def fracAt (zs : List Int) (k : Nat) : Int := match fracN (zs.drop k) with | none => -1 | some b => expAt zs (k + b)
def intAt (zs : List Int) (k : Nat) : Int := match intN (zs.drop k) with | none => -1 | some a => fracAt zs (k + a)
/-- What skipDigits answers. -/
def digAt (zs : List Int) (i : Nat) : Int := match digs1 (zs.drop i) with | none => -1 | some m => (i : Int) + m

theorem numAt_intAt (zs : List Int) (i : Nat) : numAt zs i = intAt zs (i + signN (zs.drop i)) := by
  unfold numAt intAt num
  rw [List.drop_drop]
  cases h1 : intN (zs.drop (i + signN (zs.drop i))) with
  | none => simp
  | some a =>
    simp only [Option.bind_some, List.drop_drop]
    unfold fracAt
    rw [show i + signN (zs.drop i) + a = i + (signN (zs.drop i) + a) from by omega]
    cases h2 : fracN (zs.drop (i + (signN (zs.drop i) + a))) with
    | none => simp
    | some b =>
      simp only [Option.bind_some]
      unfold expAt
      rw [show i + (signN (zs.drop i) + a) + b = i + (signN (zs.drop i) + a + b) from by omega]
      cases h3 : expN (zs.drop (i + (signN (zs.drop i) + a + b))) with
      | none => simp
      | some c => simp only [Option.map_some]; omega

theorem get0_drop {zs : List Int} {k : Nat} (h : k < zs.length) : (zs.drop k)[0]? = some (zs.getD k 0) := by
  rw [List.getElem?_drop, List.getD_eq_getElem?_getD, Nat.add_zero, List.getElem?_eq_getElem h]; rfl
theorem get0_end {zs : List Int} {k : Nat} (h : zs.length ≤ k) : (zs.drop k)[0]? = none := by
  rw [List.drop_eq_nil_of_le h]; rfl

theorem digAt_cases (zs : List Int) (i : Nat) : (digs1 (zs.drop i) = none ∧ digAt zs i = -1) ∨ (∃ m, digs1 (zs.drop i) = some m ∧ 0 < m ∧ i + m ≤ zs.length ∧ digAt zs i = ((i + m : Nat) : Int)) := by
  unfold digAt
  cases h : digs1 (zs.drop i) with
  | none => exact .inl ⟨rfl, rfl⟩
  | some m =>
    obtain ⟨h0, _, h2⟩ := digs1_some h
    rw [List.length_drop] at h2
    exact .inr ⟨m, rfl, h0, by omega, by simp⟩

theorem sign_minus {zs : List Int} {i : Nat} (h : i < zs.length) (h1 : zs.getD i 0 = 45) : numAt zs i = intAt zs (i + 1) := by
  rw [numAt_intAt]; unfold signN; rw [get0_drop h, h1, if_pos rfl]
theorem sign_none {zs : List Int} {i : Nat} (h : i < zs.length) (h1 : zs.getD i 0 ≠ 45) : numAt zs i = intAt zs i := by
  rw [numAt_intAt]; unfold signN; rw [get0_drop h, if_neg (by simpa using h1)]; rfl
theorem int_end {zs : List Int} {k : Nat} (h : zs.length ≤ k) : intAt zs k = -1 := by
  unfold intAt intN; rw [get0_end h]
theorem int_zero {zs : List Int} {k : Nat} (h : k < zs.length) (h1 : zs.getD k 0 = 48) : intAt zs k = fracAt zs (k + 1) := by
  unfold intAt intN; rw [get0_drop h]; simp only [h1, if_true]
theorem int_none {zs : List Int} {k : Nat} (h : k < zs.length) (h1 : zs.getD k 0 ≠ 48) (h2 : digs1 (zs.drop k) = none) : intAt zs k = -1 := by
  unfold intAt intN; rw [get0_drop h]; simp only [h1, if_false, h2]
theorem int_some {zs : List Int} {k m : Nat} (h : k < zs.length) (h1 : zs.getD k 0 ≠ 48) (h2 : digs1 (zs.drop k) = some m) : intAt zs k = fracAt zs (k + m) := by
  unfold intAt intN; rw [get0_drop h]; simp only [h1, if_false, h2]
theorem frac_end {zs : List Int} {k : Nat} (h : zs.length ≤ k) : fracAt zs k = expAt zs k := by
  unfold fracAt fracN; rw [get0_end h]; simp
theorem frac_no {zs : List Int} {k : Nat} (h : k < zs.length) (h1 : zs.getD k 0 ≠ 46) : fracAt zs k = expAt zs k := by
  unfold fracAt fracN; rw [get0_drop h, if_neg (by simpa using h1)]; rfl
theorem frac_none {zs : List Int} {k : Nat} (h : k < zs.length) (h1 : zs.getD k 0 = 46) (h2 : digs1 (zs.drop (k + 1)) = none) : fracAt zs k = -1 := by
  unfold fracAt fracN; rw [get0_drop h, if_pos (by rw [h1]), List.drop_drop, h2]; rfl
theorem frac_some {zs : List Int} {k m : Nat} (h : k < zs.length) (h1 : zs.getD k 0 = 46) (h2 : digs1 (zs.drop (k + 1)) = some m) : fracAt zs k = expAt zs (k + 1 + m) := by
  unfold fracAt fracN; rw [get0_drop h, if_pos (by rw [h1]), List.drop_drop, h2]
  simp only [Option.map_some]
  rw [show k + (m + 1) = k + 1 + m from by omega]
theorem exp_end {zs : List Int} {k : Nat} (h : zs.length ≤ k) : expAt zs k = k := by
  unfold expAt expN; rw [get0_end h]; simp
theorem exp_no {zs : List Int} {k : Nat} (h : k < zs.length) (h1 : zs.getD k 0 ≠ 101) (h2 : zs.getD k 0 ≠ 69) : expAt zs k = k := by
  unfold expAt expN; rw [get0_drop h, if_neg (by simp only [Option.some.injEq]; omega)]; simp
theorem exp_dig {zs : List Int} {k : Nat} (h : k < zs.length) (h1 : zs.getD k 0 = 101 ∨ zs.getD k 0 = 69) : expAt zs k = digAt zs (k + 1 + esgnN (zs.drop (k + 1))) := by
  unfold expAt expN digAt
  rw [get0_drop h, if_pos (by simpa using h1), List.drop_drop, List.drop_drop]
  rw [show k + 1 + esgnN (zs.drop (k + 1)) = k + (1 + esgnN (zs.drop (k + 1))) from by omega]
  cases digs1 (zs.drop (k + (1 + esgnN (zs.drop (k + 1))))) with
  | none => rfl
  | some m => simp only [Option.map_some]; omega
theorem exp_bare {zs : List Int} {k : Nat} (h : k < zs.length) (h1 : zs.getD k 0 = 101 ∨ zs.getD k 0 = 69) (h2 : k + 1 < zs.length) (h3 : zs.getD (k + 1) 0 ≠ 43) (h4 : zs.getD (k + 1) 0 ≠ 45) : expAt zs k = digAt zs (k + 1) := by
  rw [exp_dig h h1]; unfold esgnN; rw [get0_drop h2, if_neg (by simp only [Option.some.injEq]; omega)]
theorem exp_last {zs : List Int} {k : Nat} (h : k < zs.length) (h1 : zs.getD k 0 = 101 ∨ zs.getD k 0 = 69) (h2 : zs.length ≤ k + 1) : expAt zs k = digAt zs (k + 1) := by
  rw [exp_dig h h1]; unfold esgnN; rw [get0_end h2]; simp
theorem exp_sgn {zs : List Int} {k : Nat} (h : k < zs.length) (h1 : zs.getD k 0 = 101 ∨ zs.getD k 0 = 69) (h2 : k + 1 < zs.length) (h3 : zs.getD (k + 1) 0 = 43 ∨ zs.getD (k + 1) 0 = 45) : expAt zs k = digAt zs (k + 2) := by
  rw [exp_dig h h1]; unfold esgnN; rw [get0_drop h2, if_pos (by simpa using h3)]

end Go.Proofs.Qxb6619262a.Plain
