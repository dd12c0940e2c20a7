/-
  PLAIN LAWS of base-128 arcs: naturals and lists, no Go in sight.
-/
namespace Go.Proofs.Qxb6619315a.Plain

/-- The least count of seven-bit groups that hold v, at least one. -/
def grp (v : Nat) : Nat := Nat.log2 v / 7 + 1
/-- The groups above the lowest i. -/
def sh (v i : Nat) : Nat := v / 2 ^ (7 * i)
/-- Group i as a byte: the mark 128 on all but the lowest. -/
def dig (v i : Nat) : Nat := sh v i % 128 + (if i = 0 then 0 else 128)
/-- The bytes of an arc. -/
def arc (v : Nat) : List Int := (List.range (grp v)).map fun j => ((dig v (grp v - 1 - j) : Nat) : Int)

theorem sh_zero (v : Nat) : sh v 0 = v := by simp [sh]
theorem sh_succ (v i : Nat) : sh v (i + 1) = sh v i / 128 := by
  unfold sh
  rw [show 7 * (i + 1) = 7 * i + 7 from by omega, Nat.pow_add, Nat.div_div_eq_div_mul]
theorem sh_step (v i : Nat) : sh v i = 128 * sh v (i + 1) + sh v i % 128 := by
  rw [sh_succ]; omega
theorem sh_le (v i : Nat) : sh v i ≤ v := by unfold sh; exact Nat.div_le_self _ _
theorem sh_mono {u v : Nat} (h : u ≤ v) (i : Nat) : sh u i ≤ sh v i := by unfold sh; exact Nat.div_le_div_right h
theorem lt_of_sh {u v i : Nat} (h : sh u i < sh v i) : u < v := by
  rcases Nat.lt_or_ge u v with g | g
  · exact g
  · have := sh_mono g i; omega

theorem grp_pos (v : Nat) : 1 ≤ grp v := by unfold grp; omega
theorem grp_test (v k : Nat) (hk : 1 ≤ k) : 0 < sh v k ↔ k < grp v := by
  unfold sh grp
  by_cases hv : v = 0
  · subst hv
    rw [show Nat.log2 0 = 0 from rfl]
    simp; omega
  · rw [Nat.div_pos_iff]
    constructor
    · rintro ⟨_, h⟩
      have := (Nat.le_log2 hv).2 h
      omega
    · intro h
      refine ⟨Nat.two_pow_pos _, ?_⟩
      exact (Nat.le_log2 hv).1 (by omega)
theorem grp_top (v : Nat) : sh v (grp v) = 0 := by
  have := grp_test v (grp v) (grp_pos v)
  omega
theorem grp_high {v : Nat} (h : 1 < grp v) : 0 < sh v (grp v - 1) := (grp_test v (grp v - 1) (by omega)).2 (by omega)
theorem sh_top_lt (v : Nat) : sh v (grp v - 1) < 128 := by
  have h1 := sh_succ v (grp v - 1)
  have h2 := grp_top v
  have h3 := grp_pos v
  rw [show grp v - 1 + 1 = grp v from by omega, h2] at h1
  omega
theorem grp_le {v : Nat} (h : v < 18446744073709551616) : grp v ≤ 10 := by
  unfold grp
  by_cases hv : v = 0
  · subst hv; decide
  · have : Nat.log2 v < 64 := by
      rw [Nat.log2_lt hv]; exact h
    omega
theorem grp_mono {u v : Nat} (h : u ≤ v) : grp u ≤ grp v := by
  rcases Nat.lt_or_ge (grp v) (grp u) with g | g
  · have h1 := (grp_test u (grp v) (grp_pos v)).2 g
    have h2 := sh_mono h (grp v)
    rw [grp_top] at h2
    omega
  · exact g

theorem arc_length (v : Nat) : (arc v).length = grp v := by simp [arc]
theorem arc_getD {v j : Nat} (h : j < grp v) : (arc v).getD j 0 = ((dig v (grp v - 1 - j) : Nat) : Int) := by
  simp [arc, List.getD_eq_getElem?_getD, List.getElem?_map, List.getElem?_range h]
theorem arc_take_succ {v j : Nat} (h : j < grp v) : (arc v).take (j + 1) = (arc v).take j ++ [((dig v (grp v - 1 - j) : Nat) : Int)] := by
  have hl : j < (arc v).length := by rw [arc_length]; exact h
  rw [List.take_succ_eq_append_getElem hl]
  congr 2
  have := arc_getD h
  rw [List.getD_eq_getElem?_getD, List.getElem?_eq_getElem hl] at this
  simpa using this

/-- How two arcs sort: shorter first, then byte by byte. -/
def sgn (u v : Nat) : Int := if u < v then -1 else if v < u then 1 else 0

theorem sgn_len_lt {u v : Nat} (h : grp u < grp v) : sgn u v = -1 := by
  unfold sgn; rw [if_pos]
  rcases Nat.lt_or_ge u v with g | g
  · exact g
  · have := grp_mono g; omega
theorem sgn_len_gt {u v : Nat} (h : grp v < grp u) : sgn u v = 1 := by
  have : v < u := by
    rcases Nat.lt_or_ge v u with g | g
    · exact g
    · have := grp_mono g; omega
  unfold sgn; rw [if_neg (by omega), if_pos this]
/-- At byte j of two arcs of one length whose first j bytes agree. -/
theorem sgn_byte_lt {u v i : Nat} (hp : sh u (i + 1) = sh v (i + 1)) (h : dig u i < dig v i) : sgn u v = -1 := by
  have h1 := sh_step u i
  have h2 := sh_step v i
  have h3 : sh u i % 128 < sh v i % 128 := by unfold dig at h; omega
  have := lt_of_sh (u := u) (v := v) (i := i) (by omega)
  unfold sgn; rw [if_pos this]
theorem sgn_byte_gt {u v i : Nat} (hp : sh u (i + 1) = sh v (i + 1)) (h : dig v i < dig u i) : sgn u v = 1 := by
  have h1 := sh_step u i
  have h2 := sh_step v i
  have h3 : sh v i % 128 < sh u i % 128 := by unfold dig at h; omega
  have := lt_of_sh (u := v) (v := u) (i := i) (by omega)
  unfold sgn; rw [if_neg (by omega), if_pos this]
theorem sgn_byte_eq {u v i : Nat} (hp : sh u (i + 1) = sh v (i + 1)) (h : dig u i = dig v i) : sh u i = sh v i := by
  have h1 := sh_step u i
  have h2 := sh_step v i
  unfold dig at h
  omega
theorem sgn_same {u v : Nat} (h : u = v) : sgn u v = 0 := by unfold sgn; subst h; simp

/-- The first byte. -/
theorem first_one {v : Nat} (h : grp v = 1) : dig v (grp v - 1) = v ∧ v < 128 := by
  have := sh_top_lt v
  rw [h] at this ⊢
  rw [show 1 - 1 = 0 from rfl, sh_zero] at this
  refine ⟨?_, this⟩
  unfold dig; rw [show 1 - 1 = 0 from rfl, sh_zero, if_pos rfl]; omega
theorem first_many {v : Nat} (h : 1 < grp v) : dig v (grp v - 1) = sh v (grp v - 1) + 128 ∧ 0 < sh v (grp v - 1) ∧ sh v (grp v - 1) < 128 := by
  have h1 := sh_top_lt v
  have h2 := grp_high h
  refine ⟨?_, h2, h1⟩
  unfold dig; rw [if_neg (by omega), Nat.mod_eq_of_lt h1]

/-- The bit length. -/
def bitLen (v : Nat) : Nat := if v = 0 then 0 else Nat.log2 v + 1
theorem bitLen_le {v : Nat} (h : v < 18446744073709551616) : bitLen v ≤ 64 := by
  unfold bitLen; split
  · omega
  · rename_i hv
    have : Nat.log2 v < 64 := by rw [Nat.log2_lt hv]; exact h
    omega
theorem grp_bitLen (v : Nat) : grp v = if bitLen v = 0 then 1 else (bitLen v + 6) / 7 := by
  unfold grp bitLen
  by_cases hv : v = 0
  · subst hv; rfl
  · rw [if_neg hv, if_neg (by omega)]; omega
theorem bitLen_few {v : Nat} (h : bitLen v ≤ 7) : grp v = 1 := by
  rw [grp_bitLen]; split <;> omega
theorem bitLen_many {v : Nat} (h : 7 < bitLen v) : 1 < grp v ∧ bitLen v - 1 - (bitLen v - 1) % 7 = 7 * (grp v - 1) := by
  rw [grp_bitLen]; split <;> omega
/-- zzBitLen's loop: the highest set bit below k, plus one. -/
def bitTo (v : Nat) : Nat → Nat
  | 0 => 0
  | k + 1 => if v / 2 ^ k % 2 = 1 then k + 1 else bitTo v k
theorem bitTo_le (v k : Nat) : bitTo v k ≤ k := by
  induction k with
  | zero => simp [bitTo]
  | succ k ih => unfold bitTo; split <;> omega
theorem bitTo_all (v k : Nat) (h : v < 2 ^ k) : bitTo v k = bitLen v := by
  induction k with
  | zero =>
    have : v = 0 := by simpa using h
    subst this; rfl
  | succ k ih =>
    unfold bitTo
    by_cases hk : v < 2 ^ k
    · rw [Nat.div_eq_of_lt hk, if_neg (by omega)]; exact ih hk
    · have h2 : 2 ^ (k + 1) = 2 ^ k * 2 := Nat.pow_succ 2 k
      have h1 : v / 2 ^ k = 1 := by
        apply Nat.div_eq_of_lt_le <;> omega
      rw [h1, if_pos rfl]
      have hp := Nat.two_pow_pos k
      have hv : v ≠ 0 := by omega
      unfold bitLen; rw [if_neg hv]
      have : Nat.log2 v = k := by
        have a1 := (Nat.le_log2 hv).2 (show 2 ^ k ≤ v by omega)
        have a2 := (Nat.log2_lt hv).2 h
        omega
      omega

end Go.Proofs.Qxb6619315a.Plain
