/-
  THE WALK of FnAppendArcAppendsMinimalBase128.
-/
import Derived.Test.Qxb6619315aWalkArc
import Derived.Test.Qxb6619315aWalkCmp
import Derived.Test.Qxb6619315aWalkBits
namespace Go.Proofs.Qxb6619315a
open Go.ChangeShapes Go.WideShapes Go.ChangeAt Go.RowKit
open Plain
set_option linter.unusedVariables false

theorem row_tail3 {w : World} {g n G : Nat} {Z A : List Int} (h : Row w g 0 (n + G) (Z ++ A)) (hZ : Z.length = n) : Row w g n G A := by
  have := h.drop (i := n) (by omega)
  rw [Nat.zero_add, show n + G - n = G from by omega, List.drop_left' hZ] at this
  exact this
theorem pre_eq3 {Z A : List Int} {n : Nat} (hZ : Z.length = n) : ∀ k, k < n → (Z ++ A).getD k 0 = Z.getD k 0 := by
  intro k hk
  rw [List.getD_eq_getElem?_getD, List.getD_eq_getElem?_getD, List.getElem?_append_left (by omega)]

set_option maxRecDepth 100000 in
set_option maxHeartbeats 2000000 in
theorem law3_main (a : Option Addr) (n cap : Nat) (Z : List Int) (v : Nat) (w : World) (hcap : a = none → cap = 0) (hs : Src w a n Z) (hn : n ≤ 1048576) (hv : v < 18446744073709551616) :
    Calls Try.prog 3 #[.slice a n cap, .int .u64 (v : Int)] w fun e w' => e = .returned (.bool true) ∧ Below w.heap.size w w' := by
  have HV : Hid (v < 18446744073709551616) := hv
  have hgv := grp_le hv
  have hgv1 := grp_pos v
  have HC : Hid (a = none → cap = 0) := hcap
  have HZ : Hid (Z.length = n) := hs.1
  clear hv hcap
  go_enter Try.func3, Try.ntmps3
  go_wp2_with (go_at_call 6; go_in)
  refine (clone_any a n cap Z _ HC.out hs hn).mono ?_
  rintro e w1 ⟨a1, rfl, s1, b1⟩
  go_wp2_with fail
  refine (clone_any a1 n n Z _ s1.2.1 s1 hn).mono ?_
  rintro e w2 ⟨a2, rfl, s2, b2⟩
  have B2 : Below w.heap.size w w2 := b1.trans (b2.mono b1.size)
  have t1 := s1.below b2
  clear s1 b1 b2 hs HC
  go_wp2_with fail
  refine (ZZAppendArc_any a1 n Z v _ t1 hn HV.out).mono ?_
  rintro e w4 ⟨g4, c4, rfl, k4, m4, r4, b4⟩
  have B4 : Below w.heap.size w w4 := B2.trans (b4.mono B2.size)
  have S4 := s2.below b4
  clear t1 s2 b4 B2
  go_wp2_with fail
  refine (hasPrefix_any g4 0 (n + grp v) c4 (Z ++ arc v) a2 n n Z _ r4 S4 (by omega) (by omega) (pre_eq3 HZ.out)).mono ?_
  rintro e w7 ⟨rfl, m7, hw7⟩
  have R4 : Row w7 g4 n (grp v) (arc v) := by rw [hw7]; exact row_tail3 (r4.drewN _) HZ.out
  have B7 : Below w.heap.size w w7 := by rw [hw7]; exact below_drewN B4 _
  clear hw7 r4 S4 B4
  unfold maxLen at m4
  have hc4 : ¬ c4 = n := by omega
  go_wp2_with fail
  refine (decode_any g4 n _ v _ R4 HV.out).mono ?_
  rintro e w8 ⟨rfl, hw8⟩
  replace hw8 := hw8.symm
  subst hw8
  go_wp2_with fail
  refine (groups_any v _ HV.out).mono ?_
  rintro e w9 ⟨rfl, hw9⟩
  replace hw9 := hw9.symm
  subst hw9
  go_wp2
  go_ret
  exact ⟨rfl, B7⟩

theorem law3_out (a : Option Addr) (n cap : Nat) (v : Int) (w : World) (h : 1048576 < n) :
    Calls Try.prog 3 #[.slice a n cap, .int .u64 v] w fun e w' => e = .returned (.bool true) ∧ Below w.heap.size w w' := by
  go_enter Try.func3, Try.ntmps3
  go_wp2
  go_ret
  exact ⟨rfl, Below.refl _ _⟩
end Go.Proofs.Qxb6619315a
