/-
  THE WALK of FnAppendArcOrderMatchesShortlex.
-/
import Derived.Test.Qxb6619315aWalkArc
import Derived.Test.Qxb6619315aWalkCmp
namespace Go.Proofs.Qxb6619315a
open Go.ChangeShapes Go.WideShapes Go.ChangeAt Go.RowKit
open Plain
set_option linter.unusedVariables false

theorem row_tail {w : World} {g n G : Nat} {Z A : List Int} (h : Row w g 0 (n + G) (Z ++ A)) (hZ : Z.length = n) : Row w g n G A := by
  have := h.drop (i := n) (by omega)
  rw [Nat.zero_add, show n + G - n = G from by omega, List.drop_left' hZ] at this
  exact this
theorem pre_eq {Z A : List Int} {n : Nat} (hZ : Z.length = n) : ∀ k, k < n → (Z ++ A).getD k 0 = Z.getD k 0 := by
  intro k hk
  rw [List.getD_eq_getElem?_getD, List.getD_eq_getElem?_getD, List.getElem?_append_left (by omega)]

set_option maxRecDepth 100000 in
set_option maxHeartbeats 2000000 in
theorem law4_main (a : Option Addr) (n cap : Nat) (Z : List Int) (u v : Nat) (w : World) (hcap : a = none → cap = 0) (hs : Src w a n Z) (hn : n ≤ 1048576) (hu : u < 18446744073709551616) (hv : v < 18446744073709551616) :
    Calls Try.prog 4 #[.slice a n cap, .int .u64 (u : Int), .int .u64 (v : Int)] w fun e w' => e = .returned (.bool true) ∧ Below w.heap.size w w' := by
  have HU : Hid (u < 18446744073709551616) := hu
  have HV : Hid (v < 18446744073709551616) := hv
  have hgu := grp_le hu
  have hgv := grp_le hv
  have hgu1 := grp_pos u
  have hgv1 := grp_pos v
  have HC : Hid (a = none → cap = 0) := hcap
  have HZ : Hid (Z.length = n) := hs.1
  clear hu hv hcap
  go_enter Try.func4, Try.ntmps4
  go_wp2_with (go_at_call 12; go_in)
  refine (clone_any a n cap Z _ HC.out hs hn).mono ?_
  rintro e w1 ⟨a1, rfl, s1, b1⟩
  go_wp2_with fail
  refine (clone_any a n cap Z _ HC.out (hs.below b1) hn).mono ?_
  rintro e w2 ⟨a2, rfl, s2, b2⟩
  go_wp2_with fail
  refine (clone_any a n cap Z _ HC.out ((hs.below b1).below b2) hn).mono ?_
  rintro e w3 ⟨a3, rfl, s3, b3⟩
  have B3 : Below w.heap.size w w3 := (b1.trans (b2.mono b1.size)).trans (b3.mono (Nat.le_trans b1.size b2.size))
  have t1 := (s1.below b2).below b3
  have t2 := s2.below b3
  clear s1 s2 b1 b2 b3 hs HC
  go_wp2_with fail
  refine (ZZAppendArc_any a1 n Z u _ t1 hn HU.out).mono ?_
  rintro e w4 ⟨g4, c4, rfl, k4, m4, r4, b4⟩
  go_wp2_with fail
  refine (ZZAppendArc_any a2 n Z v _ (t2.below b4) hn HV.out).mono ?_
  rintro e w5 ⟨g5, c5, rfl, k5, m5, r5, b5⟩
  have B5 : Below w.heap.size w w5 := (B3.trans (b4.mono B3.size)).trans (b5.mono (Nat.le_trans B3.size b4.size))
  have R4 := r4.below b5
  have S3 := (s3.below b4).below b5
  clear t1 t2 s3 r4 b4 b5 B3
  go_wp2_with fail
  refine (hasPrefix_any g4 0 (n + grp u) c4 (Z ++ arc u) a3 n n Z _ R4 S3 (by omega) (by omega) (pre_eq HZ.out)).mono ?_
  rintro e w6 ⟨rfl, m6, hw6⟩
  have R4' : Row w6 g4 0 (n + grp u) (Z ++ arc u) := by rw [hw6]; exact R4.drewN _
  have R5' : Row w6 g5 0 (n + grp v) (Z ++ arc v) := by rw [hw6]; exact r5.drewN _
  have S3' : Src w6 a3 n Z := by rw [hw6]; exact S3.drewN _
  have B6 : Below w.heap.size w w6 := by rw [hw6]; exact below_drewN B5 _
  clear hw6 R4 r5 S3 B5
  go_wp2_with fail
  refine (hasPrefix_any g5 0 (n + grp v) c5 (Z ++ arc v) a3 n n Z _ R5' S3' (by omega) (by omega) (pre_eq HZ.out)).mono ?_
  rintro e w7 ⟨rfl, m7, hw7⟩
  have R4 : Row w7 g4 n (grp u) (arc u) := by rw [hw7]; exact row_tail (R4'.drewN _) HZ.out
  have R5 : Row w7 g5 n (grp v) (arc v) := by rw [hw7]; exact row_tail (R5'.drewN _) HZ.out
  have B7 : Below w.heap.size w w7 := by rw [hw7]; exact below_drewN B6 _
  clear hw7 R4' R5' S3' B6
  unfold maxLen at m4 m5
  have hc4 : ¬ c4 = n := by omega
  have hc5 : ¬ c5 = n := by omega
  have HE : Hid (∀ z : Int, sgn u v = z → Ending.returned (.bool (sgn u v == z)) = .returned (.bool true)) := fun z hz => by rw [hz]; simp
  by_cases h1 : u < v
  · have E : Hid (sgn u v = -1) := by show sgn u v = -1; unfold sgn; rw [if_pos h1]
    go_wp2
    go_quiet ((go_at_call 13; exact Calls.quiet_of (shortlex_any g4 n _ u g5 n _ v _ (R4.drewN _) (R5.drewN _) hgu hgv)))
    go_wp2
    go_ret
    exact ⟨HE.out _ E.out, below_drewN B7 _⟩
  · by_cases h2 : v < u
    · have E : Hid (sgn u v = 1) := by show sgn u v = 1; unfold sgn; rw [if_neg h1, if_pos h2]
      go_wp2
      go_quiet ((go_at_call 13; exact Calls.quiet_of (shortlex_any g4 n _ u g5 n _ v _ (R4.drewN _) (R5.drewN _) hgu hgv)))
      go_wp2
      go_ret
      exact ⟨HE.out _ E.out, below_drewN B7 _⟩
    · have E : Hid (sgn u v = 0) := by show sgn u v = 0; unfold sgn; rw [if_neg h1, if_neg h2]
      go_wp2
      go_quiet ((go_at_call 13; exact Calls.quiet_of (shortlex_any g4 n _ u g5 n _ v _ (R4.drewN _) (R5.drewN _) hgu hgv)))
      go_wp2
      go_ret
      exact ⟨HE.out _ E.out, below_drewN B7 _⟩

theorem law4_out (a : Option Addr) (n cap : Nat) (u v : Int) (w : World) (h : 1048576 < n) :
    Calls Try.prog 4 #[.slice a n cap, .int .u64 u, .int .u64 v] w fun e w' => e = .returned (.bool true) ∧ Below w.heap.size w w' := by
  go_enter Try.func4, Try.ntmps4
  go_wp2
  go_ret
  exact ⟨rfl, Below.refl _ _⟩
end Go.Proofs.Qxb6619315a
