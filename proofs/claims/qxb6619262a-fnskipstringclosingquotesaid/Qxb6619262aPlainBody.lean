/-
  PLAIN LAWS for stringEnd and stringBodyValid, by places in the text.
-/
import Derived.Test.Qxb6619262aPlainStr
namespace Go.Proofs.Qxb6619262a.Plain

def seg (zs : List Int) (k b : Nat) : List Int := (zs.drop k).take (b - k)
theorem seg_end {zs : List Int} {k b : Nat} (h : b ≤ k) : seg zs k b = [] := by
  unfold seg; rw [show b - k = 0 from by omega, List.take_zero]
theorem seg_cons {zs : List Int} {k b : Nat} (h : k < b) (hb : b ≤ zs.length) : seg zs k b = zs.getD k 0 :: seg zs (k + 1) b := by
  unfold seg; rw [drop_at (by omega), show b - k = (b - (k + 1)) + 1 from by omega, List.take_succ_cons]

/-- No byte below a blank from k on. -/
def pAt (zs : List Int) (b k : Nat) : Bool := plainB (seg zs k b)
theorem pAt_end {zs : List Int} {b k : Nat} (h : b ≤ k) : pAt zs b k = true := by unfold pAt; rw [seg_end h]; rfl
theorem pAt_ctl {zs : List Int} {b k : Nat} (h : k < b) (hb : b ≤ zs.length) (hz : zs.getD k 0 < 32) : pAt zs b k = false := by
  unfold pAt; rw [seg_cons h hb]; simp only [plainB, List.all_cons]; rw [decide_eq_false (by omega)]; rfl
theorem pAt_step {zs : List Int} {b k : Nat} (h : k < b) (hb : b ≤ zs.length) (hz : ¬ zs.getD k 0 < 32) : pAt zs b k = pAt zs b (k + 1) := by
  unfold pAt; rw [seg_cons h hb]; simp only [plainB, List.all_cons]; rw [decide_eq_true (by omega)]; rfl

/-- The odd runs of backslashes from k on end well; p: the run that ends here is odd. -/
def rAt (zs : List Int) (b : Nat) (p : Bool) (k : Nat) : Bool := runs p (seg zs k b)
theorem rAt_end {zs : List Int} {b k : Nat} (p : Bool) (h : b ≤ k) : rAt zs b p k = !p := by unfold rAt; rw [seg_end h]; cases p <;> rfl
theorem rAt_plain {zs : List Int} {b k : Nat} (h : k < b) (hb : b ≤ zs.length) (hz : zs.getD k 0 ≠ 92) : rAt zs b false k = rAt zs b false (k + 1) := by
  unfold rAt; rw [seg_cons h hb, runs_cons, if_neg hz, if_neg (by simp)]
theorem rAt_bs {zs : List Int} {b k : Nat} (p : Bool) (h : k < b) (hb : b ≤ zs.length) (hz : zs.getD k 0 = 92) : rAt zs b p k = rAt zs b (!p) (k + 1) := by
  unfold rAt; rw [seg_cons h hb, runs_cons, if_pos hz]
theorem rAt_esc {zs : List Int} {b k : Nat} (h : k < b) (hb : b ≤ zs.length) (hz : zs.getD k 0 ≠ 92) (he : escB (zs.getD k 0) = true) : rAt zs b true k = rAt zs b false (k + 1) := by
  unfold rAt; rw [seg_cons h hb, runs_cons, if_neg hz, if_pos rfl, if_pos he]; rfl
theorem rAt_bad {zs : List Int} {b k : Nat} (h : k < b) (hb : b ≤ zs.length) (hz : zs.getD k 0 ≠ 92) (he : escB (zs.getD k 0) = false) (hu : zs.getD k 0 ≠ 117) : rAt zs b true k = false := by
  unfold rAt; rw [seg_cons h hb, runs_cons, if_neg hz, if_pos rfl, if_neg (by rw [he]; simp), if_neg hu]; rfl
theorem rAt_u_short {zs : List Int} {b k : Nat} (h : k < b) (hb : b ≤ zs.length) (hz : zs.getD k 0 = 117) (hs : b ≤ k + 4) : rAt zs b true k = false := by
  unfold rAt; rw [seg_cons h hb, runs_cons, if_neg (by omega), if_pos rfl, if_neg (by rw [hz]; decide), if_pos hz]
  have hl : (seg zs (k + 1) b).length < 4 := by unfold seg; simp; omega
  have : hex4 (seg zs (k + 1) b) = false := by
    match seg zs (k + 1) b, hl with
    | [], _ => rfl
    | [_], _ => rfl
    | [_, _], _ => rfl
    | [_, _, _], _ => rfl
  rw [this]; rfl
theorem seg_four {zs : List Int} {b k : Nat} (h : k + 4 < b) (hb : b ≤ zs.length) :
    seg zs (k + 1) b = zs.getD (k + 1) 0 :: zs.getD (k + 2) 0 :: zs.getD (k + 3) 0 :: zs.getD (k + 4) 0 :: seg zs (k + 5) b := by
  rw [seg_cons (k := k + 1) (by omega) hb, seg_cons (k := k + 1 + 1) (by omega) hb, seg_cons (k := k + 1 + 1 + 1) (by omega) hb, seg_cons (k := k + 1 + 1 + 1 + 1) (by omega) hb]
theorem rAt_u_bad {zs : List Int} {b k j : Nat} (h : k + 4 < b) (hb : b ≤ zs.length) (hz : zs.getD k 0 = 117) (hj : j < 4) (hx : hexB (zs.getD (k + 1 + j) 0) = false) : rAt zs b true k = false := by
  unfold rAt; rw [seg_cons (by omega) hb, runs_cons, if_neg (by omega), if_pos rfl, if_neg (by rw [hz]; decide), if_pos hz]
  have : hex4 (seg zs (k + 1) b) = false := by
    rw [seg_four h hb]
    match j, hj with
    | 0, _ => simp only [hex4]; rw [show k + 1 = k + 1 + 0 from rfl, hx]; rfl
    | 1, _ => simp only [hex4]; rw [show k + 2 = k + 1 + 1 from rfl, hx]; simp
    | 2, _ => simp only [hex4]; rw [show k + 3 = k + 1 + 2 from rfl, hx]; simp
    | 3, _ => simp only [hex4]; rw [show k + 4 = k + 1 + 3 from rfl, hx]; simp
  rw [this]; rfl
theorem rAt_u {zs : List Int} {b k : Nat} (h : k + 4 < b) (hb : b ≤ zs.length) (hz : zs.getD k 0 = 117) (hx : ∀ j, j < 4 → hexB (zs.getD (k + 1 + j) 0) = true) : rAt zs b true k = rAt zs b false (k + 1) := by
  unfold rAt; rw [seg_cons (by omega) hb, runs_cons, if_neg (by omega), if_pos rfl, if_neg (by rw [hz]; decide), if_pos hz]
  have : hex4 (seg zs (k + 1) b) = true := by
    rw [seg_four h hb]
    have h0 := hx 0 (by omega)
    have h1 := hx 1 (by omega)
    have h2 := hx 2 (by omega)
    have h3 := hx 3 (by omega)
    simp only [hex4]
    rw [show k + 1 = k + 1 + 0 from rfl, h0, show k + 2 = k + 1 + 1 from rfl, h1, show k + 3 = k + 1 + 2 from rfl, h2, show k + 4 = k + 1 + 3 from rfl, h3]; rfl
  rw [this]; rfl

def bodyV (zs : List Int) (a b : Nat) : Bool := pAt zs b a && rAt zs b false a

/-- The place of the closing quote. -/
def fqAt (zs : List Int) (p : Bool) (k : Nat) : Int := match fq p (zs.drop k) with | none => -1 | some q => (k : Int) + q
theorem fqAt_end {zs : List Int} {k : Nat} (p : Bool) (h : zs.length ≤ k) : fqAt zs p k = -1 := by
  unfold fqAt; rw [List.drop_eq_nil_of_le h]; rfl
theorem fqAt_hit {zs : List Int} {k : Nat} (h : k < zs.length) (hz : zs.getD k 0 = 34) : fqAt zs false k = k := by
  unfold fqAt; rw [drop_at h, fq, if_pos ⟨hz, rfl⟩]; simp
theorem fqAt_step {zs : List Int} {k : Nat} {p : Bool} (h : k < zs.length) (hz : ¬ (zs.getD k 0 = 34 ∧ p = false)) : fqAt zs p k = fqAt zs (if zs.getD k 0 = 92 then !p else false) (k + 1) := by
  unfold fqAt; rw [drop_at h, fq, if_neg hz]
  cases fq (if zs.getD k 0 = 92 then !p else false) (zs.drop (k + 1)) with
  | none => rfl
  | some q => simp only [Option.map_some]; omega

theorem fq_lt {p : Bool} {l : List Int} {q : Nat} (h : fq p l = some q) : q < l.length := by
  induction l generalizing p q with
  | nil => simp [fq] at h
  | cons c r ih =>
    rw [fq] at h
    split at h
    · injection h with h; simp; omega
    · obtain ⟨q', hq, rfl⟩ := Option.map_eq_some_iff.1 h
      have := ih hq
      simp; omega

/-- stringEnd's answer is skipString's. -/
theorem end_cases (zs : List Int) (k : Nat) : (fqAt zs false k = -1 ∧ strAt zs k = -1) ∨
    ∃ q : Nat, k ≤ q ∧ q < zs.length ∧ fqAt zs false k = (q : Int) ∧ ((bodyV zs k q = true ∧ strAt zs k = (q : Int) + 1) ∨ (bodyV zs k q = false ∧ strAt zs k = -1)) := by
  unfold fqAt strAt
  rw [← strEnd_eq]
  unfold strEnd
  cases hq : fq false (zs.drop k) with
  | none => exact .inl ⟨rfl, rfl⟩
  | some q =>
    have hl := fq_lt hq
    rw [List.length_drop] at hl
    refine .inr ⟨k + q, by omega, by omega, by simp, ?_⟩
    have hb : bodyV zs k (k + q) = (plainB ((zs.drop k).take q) && runs false ((zs.drop k).take q)) := by
      unfold bodyV pAt rAt seg; rw [show k + q - k = q from by omega]
    rw [hb]
    simp only
    generalize (plainB ((zs.drop k).take q) && runs false ((zs.drop k).take q)) = B
    cases B with
    | true => exact .inl ⟨rfl, by simp only [okEnd, if_true]; omega⟩
    | false => exact .inr ⟨rfl, rfl⟩

end Go.Proofs.Qxb6619262a.Plain
