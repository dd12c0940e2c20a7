/-
  PLAIN LAWS of skipString, skipSpace and stringEnd: lists of integers, no Go in sight.
-/
namespace Go.Proofs.Qxb6619262a.Plain

def hexB (c : Int) : Bool := (decide (48 ≤ c) && decide (c ≤ 57)) || (decide (97 ≤ c) && decide (c ≤ 102)) || (decide (65 ≤ c) && decide (c ≤ 70))
/-- the letters that may follow a backslash, u left out -/
def escB (c : Int) : Bool := c == 34 || c == 92 || c == 47 || c == 98 || c == 102 || c == 110 || c == 114 || c == 116

/-- The bytes that the rest of a string takes, its closing quote counted in, from behind the opening quote on. -/
def str : List Int → Option Nat
  | [] => none
  | c :: r =>
    if c = 34 then some 1
    else if c < 32 then none
    else if c ≠ 92 then (str r).map (· + 1)
    else match r with
      | [] => none
      | e :: r2 =>
        if escB e = true then (str r2).map (· + 2)
        else if e = 117 then
          match r2 with
          | h1 :: h2 :: h3 :: h4 :: r3 => if (hexB h1 && hexB h2 && hexB h3 && hexB h4) = true then (str r3).map (· + 6) else none
          | _ => none
        else none

/-- Behind a backslash. -/
def escN : List Int → Option Nat
  | [] => none
  | e :: r2 =>
    if escB e = true then (str r2).map (· + 2)
    else if e = 117 then
      match r2 with
      | h1 :: h2 :: h3 :: h4 :: r3 => if (hexB h1 && hexB h2 && hexB h3 && hexB h4) = true then (str r3).map (· + 6) else none
      | _ => none
    else none
theorem str_cons (c : Int) (r : List Int) : str (c :: r) = if c = 34 then some 1 else if c < 32 then none else if c ≠ 92 then (str r).map (· + 1) else escN r := by
  rw [str.eq_def]
  rfl

/-- What skipString answers when it stands at k, past the quote. -/
def strAt (zs : List Int) (k : Nat) : Int := match str (zs.drop k) with | none => -1 | some m => (k : Int) + m

theorem str_some {l : List Int} {m : Nat} (h : str l = some m) : 1 ≤ m ∧ m ≤ l.length ∧ l.getD (m - 1) 0 = 34 ∧ str (l.take m) = some m := by
  suffices H : ∀ n (l : List Int) m, l.length ≤ n → str l = some m → 1 ≤ m ∧ m ≤ l.length ∧ l.getD (m - 1) 0 = 34 ∧ str (l.take m) = some m from H l.length l m (Nat.le_refl _) h
  intro n
  induction n with
  | zero =>
    intro l m hn h
    match l, hn with
    | [], _ => simp [str] at h
  | succ n ih =>
    intro l m hn h
    match l with
    | [] => simp [str] at h
    | c :: r =>
      simp only [List.length_cons] at hn
      rw [str_cons] at h
      by_cases h1 : c = 34
      · rw [if_pos h1] at h
        injection h with h
        subst h
        subst h1
        simp [str]
      rw [if_neg h1] at h
      by_cases h2 : c < 32
      · rw [if_pos h2] at h; cases h
      rw [if_neg h2] at h
      by_cases h3 : c ≠ 92
      · rw [if_pos h3] at h
        obtain ⟨m', hm, rfl⟩ := Option.map_eq_some_iff.1 h
        obtain ⟨a1, a2, a3, a4⟩ := ih r m' (by omega) hm
        refine ⟨by omega, by simp; omega, ?_, ?_⟩
        · obtain ⟨q, rfl⟩ : ∃ q, m' = q + 1 := ⟨m' - 1, by omega⟩
          simpa using a3
        · rw [List.take_succ_cons]
          rw [str_cons, if_neg h1, if_neg h2, if_pos h3, a4]
          rfl
      rw [if_neg h3] at h
      match r with
      | [] => cases h
      | e :: r2 =>
        simp only [List.length_cons] at hn
        simp only [escN] at h
        by_cases h4 : escB e = true
        · rw [if_pos h4] at h
          obtain ⟨m', hm, rfl⟩ := Option.map_eq_some_iff.1 h
          obtain ⟨a1, a2, a3, a4⟩ := ih r2 m' (by omega) hm
          refine ⟨by omega, by simp; omega, ?_, ?_⟩
          · obtain ⟨q, rfl⟩ : ∃ q, m' = q + 1 := ⟨m' - 1, by omega⟩
            simpa using a3
          · rw [List.take_succ_cons, List.take_succ_cons]
            rw [str_cons, if_neg h1, if_neg h2, if_neg h3]
            simp only [escN]
            rw [if_pos h4, a4]
            rfl
        rw [if_neg h4] at h
        by_cases h5 : e = 117
        · rw [if_pos h5] at h
          match r2 with
          | x1 :: x2 :: x3 :: x4 :: r3 =>
            simp only [List.length_cons] at hn
            simp only at h
            by_cases h6 : (hexB x1 && hexB x2 && hexB x3 && hexB x4) = true
            · rw [if_pos h6] at h
              obtain ⟨m', hm, rfl⟩ := Option.map_eq_some_iff.1 h
              obtain ⟨a1, a2, a3, a4⟩ := ih r3 m' (by omega) hm
              refine ⟨by omega, by simp; omega, ?_, ?_⟩
              · obtain ⟨q, rfl⟩ : ∃ q, m' = q + 1 := ⟨m' - 1, by omega⟩
                simpa using a3
              · simp only [List.take_succ_cons]
                rw [str_cons, if_neg h1, if_neg h2, if_neg h3]
                simp only [escN]
                rw [if_neg h4, if_pos h5, if_pos h6, a4]
                rfl
            · rw [if_neg h6] at h; cases h
          | [] => cases h
          | [_] => cases h
          | [_, _] => cases h
          | [_, _, _] => cases h
        · rw [if_neg h5] at h; cases h

/-! ### one step of skipString's loop, at a place k of the text -/
theorem drop_at {zs : List Int} {k : Nat} (h : k < zs.length) : zs.drop k = zs.getD k 0 :: zs.drop (k + 1) := by
  rw [List.drop_eq_getElem_cons h, List.getD_eq_getElem?_getD, List.getElem?_eq_getElem h]; rfl

theorem strAt_end {zs : List Int} {k : Nat} (h : zs.length ≤ k) : strAt zs k = -1 := by
  unfold strAt; rw [List.drop_eq_nil_of_le h]; simp [str]
theorem strAt_quote {zs : List Int} {k : Nat} (h : k < zs.length) (h1 : zs.getD k 0 = 34) : strAt zs k = (k : Int) + 1 := by
  unfold strAt; rw [drop_at h]; rw [str_cons, if_pos h1]; rfl
theorem strAt_ctl {zs : List Int} {k : Nat} (h : k < zs.length) (h2 : zs.getD k 0 < 32) : strAt zs k = -1 := by
  unfold strAt; rw [drop_at h]; rw [str_cons, if_neg (by omega), if_pos h2]
theorem strAt_plain {zs : List Int} {k : Nat} (h : k < zs.length) (h1 : zs.getD k 0 ≠ 34) (h2 : ¬ zs.getD k 0 < 32) (h3 : zs.getD k 0 ≠ 92) : strAt zs k = strAt zs (k + 1) := by
  unfold strAt; rw [drop_at h]; rw [str_cons, if_neg h1, if_neg h2, if_pos h3]
  cases str (zs.drop (k + 1)) with
  | none => rfl
  | some m => simp only [Option.map_some]; omega
theorem strAt_bs_end {zs : List Int} {k : Nat} (h : k + 1 = zs.length) (h3 : zs.getD k 0 = 92) : strAt zs k = -1 := by
  unfold strAt; rw [drop_at (by omega), List.drop_eq_nil_of_le (Nat.le_of_eq h.symm)]; rw [str_cons, if_neg (by omega), if_neg (by omega), if_neg (by omega)]; rfl
theorem strAt_esc {zs : List Int} {k : Nat} (h : k + 1 < zs.length) (h3 : zs.getD k 0 = 92) (h4 : escB (zs.getD (k + 1) 0) = true) : strAt zs k = strAt zs (k + 2) := by
  unfold strAt; rw [drop_at (by omega), drop_at h]; rw [str_cons, if_neg (by omega), if_neg (by omega), if_neg (by omega)]
  simp only [escN]
  rw [if_pos h4]
  cases str (zs.drop (k + 1 + 1)) with
  | none => rfl
  | some m => simp only [Option.map_some]; omega
theorem strAt_bad {zs : List Int} {k : Nat} (h : k + 1 < zs.length) (h3 : zs.getD k 0 = 92) (h4 : escB (zs.getD (k + 1) 0) = false) (h5 : zs.getD (k + 1) 0 ≠ 117) : strAt zs k = -1 := by
  unfold strAt; rw [drop_at (by omega), drop_at h]; rw [str_cons, if_neg (by omega), if_neg (by omega), if_neg (by omega)]
  simp only [escN]
  rw [if_neg (by rw [h4]; simp), if_neg h5]
theorem strAt_u_short {zs : List Int} {k : Nat} (h : k + 1 < zs.length) (hs : zs.length ≤ k + 5) (h3 : zs.getD k 0 = 92) (h5 : zs.getD (k + 1) 0 = 117) : strAt zs k = -1 := by
  unfold strAt; rw [drop_at (by omega), drop_at h]; rw [str_cons, if_neg (by omega), if_neg (by omega), if_neg (by omega)]
  simp only [escN]
  rw [if_neg (by rw [h5]; decide), if_pos h5]
  have hl : (zs.drop (k + 1 + 1)).length < 4 := by simp; omega
  match zs.drop (k + 1 + 1), hl with
  | [], _ => rfl
  | [_], _ => rfl
  | [_, _], _ => rfl
  | [_, _, _], _ => rfl
theorem drop_four {zs : List Int} {k : Nat} (h : k + 5 < zs.length) : zs.drop (k + 1 + 1) = zs.getD (k + 2) 0 :: zs.getD (k + 3) 0 :: zs.getD (k + 4) 0 :: zs.getD (k + 5) 0 :: zs.drop (k + 6) := by
  rw [drop_at (k := k + 1 + 1) (by omega), drop_at (k := k + 1 + 1 + 1) (by omega), drop_at (k := k + 1 + 1 + 1 + 1) (by omega), drop_at (k := k + 1 + 1 + 1 + 1 + 1) (by omega)]
theorem strAt_u_bad {zs : List Int} {k : Nat} (h : k + 5 < zs.length) (h3 : zs.getD k 0 = 92) (h5 : zs.getD (k + 1) 0 = 117)
    (h6 : (hexB (zs.getD (k + 2) 0) && hexB (zs.getD (k + 3) 0) && hexB (zs.getD (k + 4) 0) && hexB (zs.getD (k + 5) 0)) = false) : strAt zs k = -1 := by
  unfold strAt; rw [drop_at (k := k) (by omega), drop_at (k := k + 1) (by omega), drop_four h]; rw [str_cons, if_neg (by omega), if_neg (by omega), if_neg (by omega)]
  simp only [escN]
  rw [if_neg (by rw [h5]; decide), if_pos h5, if_neg (by rw [h6]; simp)]
theorem strAt_u {zs : List Int} {k : Nat} (h : k + 5 < zs.length) (h3 : zs.getD k 0 = 92) (h5 : zs.getD (k + 1) 0 = 117)
    (h6 : (hexB (zs.getD (k + 2) 0) && hexB (zs.getD (k + 3) 0) && hexB (zs.getD (k + 4) 0) && hexB (zs.getD (k + 5) 0)) = true) : strAt zs k = strAt zs (k + 6) := by
  unfold strAt; rw [drop_at (k := k) (by omega), drop_at (k := k + 1) (by omega), drop_four h]; rw [str_cons, if_neg (by omega), if_neg (by omega), if_neg (by omega)]
  simp only [escN]
  rw [if_neg (by rw [h5]; decide), if_pos h5, if_pos h6]
  cases str (zs.drop (k + 6)) with
  | none => rfl
  | some m => simp only [Option.map_some]; omega

/-! ### the closing quote by parity, the body checked apart -/
/-- The place of the first quote in front of which stands an even run of backslashes; p: the run that ends here is odd. -/
def fq : Bool → List Int → Option Nat
  | _, [] => none
  | p, c :: r => if c = 34 ∧ p = false then some 0 else (fq (if c = 92 then !p else false) r).map (· + 1)
def hex4 : List Int → Bool
  | h1 :: h2 :: h3 :: h4 :: _ => hexB h1 && hexB h2 && hexB h3 && hexB h4
  | _ => false
/-- The odd runs of backslashes end in a valid escape. -/
def runs : Bool → List Int → Bool
  | p, [] => !p
  | p, c :: r => if c = 92 then runs (!p) r else if p = true then (if escB c = true then true else if c = 117 then hex4 r else false) && runs false r else runs false r
def plainB (l : List Int) : Bool := l.all fun c => decide (32 ≤ c)
/-- The reckoning of stringEnd, past the opening quote. -/
def okEnd (b : Bool) (q : Nat) : Option Nat := if b = true then some (q + 1) else none
def strEnd (l : List Int) : Option Nat := match fq false l with
  | none => none
  | some q => okEnd (plainB (l.take q) && runs false (l.take q)) q
theorem okEnd_map (b : Bool) (q k : Nat) : (okEnd b q).map (· + k) = okEnd b (q + k) := by
  unfold okEnd; cases b <;> simp; omega
theorem okEnd_false (q : Nat) : okEnd false q = none := rfl
theorem runs_cons (p : Bool) (c : Int) (r : List Int) : runs p (c :: r) = if c = 92 then runs (!p) r else if p = true then (if escB c = true then true else if c = 117 then hex4 r else false) && runs false r else runs false r := by
  rw [runs.eq_def]

theorem hex_plain {c : Int} (h : hexB c = true) : c ≠ 34 ∧ c ≠ 92 ∧ 32 ≤ c := by
  simp [hexB] at h; omega

theorem fq_false_cons {c : Int} {r : List Int} (h1 : c ≠ 34) (h2 : c ≠ 92) : fq false (c :: r) = (fq false r).map (· + 1) := by
  rw [fq, if_neg (by simp [h1]), if_neg h2]

theorem strEnd_eq (l : List Int) : strEnd l = str l := by
  suffices H : ∀ n (l : List Int), l.length ≤ n → strEnd l = str l from H l.length l (Nat.le_refl _)
  intro n
  induction n with
  | zero =>
    intro l hn
    match l, hn with
    | [], _ => rfl
  | succ n ih =>
    intro l hn
    match l with
    | [] => rfl
    | c :: r =>
      simp only [List.length_cons] at hn
      rw [str_cons]
      by_cases h1 : c = 34
      · subst h1; simp [strEnd, fq, plainB, runs, okEnd]
      rw [if_neg h1]
      by_cases h2 : c < 32
      · rw [if_pos h2]
        unfold strEnd
        rw [fq_false_cons h1 (by omega)]
        cases fq false r with
        | none => rfl
        | some q =>
          simp only [Option.map_some, List.take_succ_cons]
          have : plainB (c :: r.take q) = false := by simp [plainB]; intro h; omega
          rw [this]; rfl
      rw [if_neg h2]
      by_cases h3 : c ≠ 92
      · rw [if_pos h3, ← ih r (by omega)]
        unfold strEnd
        rw [fq_false_cons h1 h3]
        cases fq false r with
        | none => rfl
        | some q =>
          simp only [Option.map_some, List.take_succ_cons]
          rw [runs_cons, if_neg h3, if_neg (by simp)]
          have : plainB (c :: r.take q) = plainB (r.take q) := by simp [plainB]; intro _; omega
          rw [this, okEnd_map]
      have h3 : c = 92 := by simpa using h3
      subst h3
      rw [if_neg (by simp)]
      match r with
      | [] => rfl
      | e :: r2 =>
        simp only [List.length_cons] at hn
        simp only [escN]
        have f2 : fq false (92 :: e :: r2) = (fq false r2).map (· + 2) := by
          rw [fq, if_neg (by simp), fq, if_neg (by simp)]
          simp [Option.map_map, Function.comp_def]
        by_cases h4 : escB e = true
        · rw [if_pos h4, ← ih r2 (by omega)]
          unfold strEnd
          rw [f2]
          have he : 32 ≤ e := by simp [escB] at h4; omega
          cases fq false r2 with
          | none => rfl
          | some q =>
            simp only [Option.map_some, List.take_succ_cons]
            have a1 : plainB (92 :: e :: r2.take q) = plainB (r2.take q) := by simp [plainB, he]
            have a2 : runs false (92 :: e :: r2.take q) = runs false (r2.take q) := by
              rw [runs_cons, if_pos rfl, runs_cons]
              by_cases h9 : e = 92
              · rw [if_pos h9]; rfl
              · rw [if_neg h9, if_pos (by rfl), if_pos h4]; rfl
            rw [a1, a2, okEnd_map]
        rw [if_neg h4]
        by_cases h5 : e = 117
        · subst h5
          rw [if_pos rfl]
          have a2 : ∀ x, runs false (92 :: 117 :: x) = (hex4 x && runs false x) := by
            intro x
            rw [runs_cons, if_pos rfl, runs_cons, if_neg (by simp), if_pos (by rfl), if_neg (by decide), if_pos rfl]
          have key : hex4 r2 = false → strEnd (92 :: 117 :: r2) = none := by
            intro hh
            unfold strEnd
            rw [f2]
            cases hq : fq false r2 with
            | none => rfl
            | some q =>
              simp only [Option.map_some, List.take_succ_cons]
              rw [a2]
              have : hex4 (r2.take q) = false := by
                match r2, q with
                | [], _ => simp [hex4]
                | [_], 0 => simp [hex4]
                | [_], 1 => simp [hex4]
                | [_], q + 2 => simp [hex4]
                | [_, _], 0 => simp [hex4]
                | [_, _], 1 => simp [hex4]
                | [_, _], q + 2 => simp [hex4]
                | [_, _, _], 0 => simp [hex4]
                | [_, _, _], 1 => simp [hex4]
                | [_, _, _], 2 => simp [hex4]
                | [_, _, _], q + 3 => simp [hex4]
                | _ :: _ :: _ :: _ :: _, 0 => simp [hex4]
                | _ :: _ :: _ :: _ :: _, 1 => simp [hex4]
                | _ :: _ :: _ :: _ :: _, 2 => simp [hex4]
                | _ :: _ :: _ :: _ :: _, 3 => simp [hex4]
                | _ :: _ :: _ :: _ :: _, q + 4 => simpa [hex4] using hh
              rw [this, Bool.false_and, Bool.and_false]
              rfl
          match r2 with
          | x1 :: x2 :: x3 :: x4 :: r3 =>
            simp only [List.length_cons] at hn
            simp only
            by_cases h6 : (hexB x1 && hexB x2 && hexB x3 && hexB x4) = true
            · rw [if_pos h6, ← ih r3 (by omega)]
              have h6' := h6
              simp only [Bool.and_eq_true] at h6'
              obtain ⟨⟨⟨y1, y2⟩, y3⟩, y4⟩ := h6'
              have z1 := hex_plain y1
              have z2 := hex_plain y2
              have z3 := hex_plain y3
              have z4 := hex_plain y4
              unfold strEnd
              rw [f2, fq_false_cons z1.1 z1.2.1, fq_false_cons z2.1 z2.2.1, fq_false_cons z3.1 z3.2.1, fq_false_cons z4.1 z4.2.1]
              cases fq false r3 with
              | none => rfl
              | some q =>
                simp only [Option.map_some, List.take_succ_cons]
                have a1 : plainB (92 :: 117 :: x1 :: x2 :: x3 :: x4 :: r3.take q) = plainB (r3.take q) := by simp [plainB, z1.2.2, z2.2.2, z3.2.2, z4.2.2]
                have a3 : runs false (x1 :: x2 :: x3 :: x4 :: r3.take q) = runs false (r3.take q) := by
                  simp [runs, z1.2.1, z2.2.1, z3.2.1, z4.2.1]
                rw [a1, a2, a3]
                rw [okEnd_map]
                simp only [hex4, h6, Bool.true_and]
            · rw [if_neg h6]
              exact key (by simpa [hex4] using h6)
          | [] => exact key rfl
          | [_] => exact key rfl
          | [_, _] => exact key rfl
          | [_, _, _] => exact key rfl
        · rw [if_neg h5]
          unfold strEnd
          rw [f2]
          cases fq false r2 with
          | none => rfl
          | some q =>
            simp only [Option.map_some, List.take_succ_cons]
            have a2 : runs false (92 :: e :: r2.take q) = false := by
              have h9 : e ≠ 92 := fun h => h4 (by rw [h]; decide)
              rw [runs_cons, if_pos rfl, runs_cons, if_neg h9, if_pos (by rfl), if_neg h4, if_neg h5]; rfl
            rw [a2, Bool.and_false]; rfl

/-! ### white space -/
def spB (c : Int) : Bool := c == 32 || c == 9 || c == 10 || c == 13
def sps : List Int → Nat
  | [] => 0
  | c :: r => if spB c = true then sps r + 1 else 0
theorem sps_le (l : List Int) : sps l ≤ l.length := by
  induction l with
  | nil => simp [sps]
  | cons c r ih => unfold sps; split <;> simp <;> omega
theorem sps_lt {l : List Int} {k : Nat} (h : k < sps l) : spB (l.getD k 0) = true := by
  induction l generalizing k with
  | nil => simp [sps] at h
  | cons c r ih =>
    unfold sps at h
    split at h
    · rename_i hc
      match k with
      | 0 => simpa using hc
      | k + 1 => simpa using ih (by omega)
    · omega
theorem sps_stop {l : List Int} (h : sps l < l.length) : spB (l.getD (sps l) 0) = false := by
  induction l with
  | nil => simp at h
  | cons c r ih =>
    unfold sps at h ⊢
    split
    · rename_i hc
      rw [if_pos hc] at h
      simpa using ih (by simpa using h)
    · rename_i hc
      simpa using hc
theorem sps_pad (p l : List Int) (h : ∀ c ∈ p, spB c = true) : sps (p ++ l) = p.length + sps l := by
  induction p with
  | nil => simp
  | cons c r ih =>
    rw [List.cons_append, sps, if_pos (h c (by simp)), ih (fun x hx => h x (by simp [hx]))]
    simp; omega

end Go.Proofs.Qxb6619262a.Plain
