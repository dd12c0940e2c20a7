/-
  THE WALKS of ZZPeek and of FnPeekSeesFirstByteOfAppendedArc.
-/
import Derived.Test.Qxb6619315aWalkArc
import Derived.Test.Qxb6619315aWalkBits
namespace Go.Proofs.Qxb6619315a
open Go.ChangeShapes Go.WideShapes Go.ChangeAt Go.RowKit
open Plain
set_option linter.unusedVariables false

set_option maxRecDepth 100000 in
set_option maxHeartbeats 1000000 in
theorem peek_any (b N c : Nat) (z : Int) (w : World) (hz : w.cell? ⟨b, 0, none⟩ = some (.int .u8 z)) (hN : 0 < N) (hN1 : N ≤ 4194304) :
    Calls Try.prog 16 #[.slice (some ⟨b, 0, none⟩) N c] w fun e w' => e = .returned (.tuple #[.int .u8 z, .bool true]) ∧ Below w.heap.size w w' := by
  have hne : ((N : Int) == 0) = false := ne_bool (by omega)
  have hb : b < w.heap.size := World.block_lt_of_cell? w _ hz
  go_enter Try.func16, Try.ntmps16
  go_wp2
  go_ret2
  exact ⟨rfl, (Below.refl _ _).alloc (Nat.le_refl _) _⟩

set_option maxRecDepth 100000 in
set_option maxHeartbeats 2000000 in
/-- c is not empty. -/
theorem law5_full (a : Option Addr) (n cap : Nat) (Z : List Int) (v : Nat) (w : World) (hcap : a = none → cap = 0) (hs : Src w a n Z) (hn : n ≤ 1048576) (hv : v < 18446744073709551616) (hn0 : 0 < n) :
    Calls Try.prog 5 #[.slice a n cap, .int .u64 (v : Int)] w fun e w' => e = .returned (.bool true) ∧ Below w.heap.size w w' := by
  have HV : Hid (v < 18446744073709551616) := hv
  have hgv := grp_le hv
  have hgv1 := grp_pos v
  have HC : Hid (a = none → cap = 0) := hcap
  have HZ : Hid (Z.length = n) := hs.1
  clear hv hcap
  go_enter Try.func5, Try.ntmps5
  go_wp2_with (go_at_call 14; go_in)
  refine (clone_any a n cap Z _ HC.out hs hn).mono ?_
  rintro e w1 ⟨a1, rfl, s1, b1⟩
  have hrow := s1.row hn0
  obtain ⟨b, off, rfl, hr⟩ := hrow
  obtain ⟨z, hz1, Hz⟩ := hr.byteAt (k := 0) hn0
  rw [Nat.add_zero] at hz1
  clear hs HC
  go_wp2_with fail
  refine (ZZAppendArc_any (some ⟨b, off, none⟩) n Z v _ s1 hn HV.out).mono ?_
  rintro e w4 ⟨g4, c4, rfl, k4, m4, r4, b4⟩
  have B4 : Below w.heap.size w w4 := b1.trans (b4.mono b1.size)
  have h4 : w4.cell? ⟨g4, 0, none⟩ = some (.int .u8 z) := by
    have := r4.2 0 (by omega)
    rw [Nat.zero_add, List.getD_eq_getElem?_getD, List.getElem?_append_left (by rw [HZ.out]; exact hn0), ← List.getD_eq_getElem?_getD, Hz.out] at this
    exact this
  have H4 : Hid (w4.cell? ⟨g4, 0, none⟩ = some (.int .u8 z)) := h4
  clear h4 r4 b4 b1 s1 hr hz1 Hz
  go_wp2_with fail
  refine (peek_any g4 (n + grp v) c4 z _ H4.out (by omega) (by omega)).mono ?_
  rintro e w5 ⟨rfl, b5⟩
  have B5 : Below w.heap.size w w5 := B4.trans (b5.mono B4.size)
  clear b5 B4 H4
  go_wp2
  go_ret
  exact ⟨rfl, B5⟩

theorem first_cell {w : World} {g v : Nat} {z : Int} (h : Row w g 0 (0 + grp v) ([] ++ arc v)) (hz : z = ((dig v (grp v - 1) : Nat) : Int)) : w.cell? ⟨g, 0, none⟩ = some (.int .u8 z) := by
  have h0 := grp_pos v
  have := h.2 0 (by omega)
  rw [Nat.zero_add, List.nil_append, arc_getD (by omega), Nat.sub_zero, ← hz] at this
  exact this

set_option maxRecDepth 100000 in
set_option maxHeartbeats 2000000 in
/-- c is empty. -/
theorem law5_bare (a : Option Addr) (cap : Nat) (v : Nat) (w : World) (hcap : a = none → cap = 0) (hv : v < 18446744073709551616) :
    Calls Try.prog 5 #[.slice a 0 cap, .int .u64 (v : Int)] w fun e w' => e = .returned (.bool true) ∧ Below w.heap.size w w' := by
  have HV : Hid (v < 18446744073709551616) := hv
  have hgv := grp_le hv
  have hgv1 := grp_pos v
  have HC : Hid (a = none → cap = 0) := hcap
  have hv0 : (0 : Int) ≤ (v : Int) := by omega
  have hv1 : (v : Int) ≤ 18446744073709551615 := by omega
  have hbl := bitLen_le hv
  have hfew := @bitLen_few v
  have hmany := @bitLen_many v
  clear hv hcap
  have C := fun w => bitLen_any v w HV.out
  generalize Plain.bitLen v = B at hbl hfew hmany C
  have HB : Hid (∀ w, Calls Try.prog 15 #[.int .u64 (v : Int)] w fun e w' => e = .returned (.int .i64 (B : Int)) ∧ w' = w) := C
  have HF : Hid (B ≤ 7 → grp v = 1) := hfew
  have HM : Hid (7 < B → 1 < grp v ∧ B - 1 - (B - 1) % 7 = 7 * (grp v - 1)) := hmany
  clear C hfew hmany
  by_cases hB : 7 < B
  · obtain ⟨m1, m2⟩ := HM.out hB
    obtain ⟨f1, f2, f3⟩ := first_many m1
    obtain ⟨z, hz⟩ : ∃ z : Int, z = ((dig v (grp v - 1) : Nat) : Int) := ⟨_, rfl⟩
    have e1 : bits .or .u8 ((v : Int) / 2 ^ (B - 1 - (B - 1) % 7) % 256) 128 = z := by
      rw [m2, cast_shr, hz, f1]
      have h : ((v / 2 ^ (7 * (grp v - 1)) : Nat) : Int) % 256 = ((sh v (grp v - 1) : Nat) : Int) := by
        have : v / 2 ^ (7 * (grp v - 1)) = sh v (grp v - 1) := rfl
        rw [this]; omega
      rw [h]; exact or_128 _ f3
    have HZ : Hid (z = ((dig v (grp v - 1) : Nat) : Int)) := hz
    clear hz m1 m2 f1 f2 f3 HM HF
    go_enter Try.func5, Try.ntmps5
    go_wp2_with (go_at_call 14; go_in)
    refine (clone_any a 0 cap [] _ HC.out (Src.empty a) (by omega)).mono ?_
    rintro e w1 ⟨a1, rfl, s1, b1⟩
    go_wp2_with fail
    refine (HB.out _).mono ?_
    rintro e w2 ⟨rfl, hw2⟩
    replace hw2 := hw2.symm
    subst hw2
    go_wp2_with fail
    refine (ZZAppendArc_any a1 0 [] v _ s1 (by omega) HV.out).mono ?_
    rintro e w4 ⟨g4, c4, rfl, k4, m4, r4, b4⟩
    have B4 : Below w.heap.size w w4 := b1.trans (b4.mono b1.size)
    have H4 : Hid (w4.cell? ⟨g4, 0, none⟩ = some (.int .u8 z)) := first_cell r4 HZ.out
    clear r4 b4 b1 s1
    go_wp2_with fail
    refine (peek_any g4 _ c4 z _ H4.out (by omega) (by omega)).mono ?_
    rintro e w5 ⟨rfl, b5⟩
    have B5 : Below w.heap.size w w5 := B4.trans (b5.mono B4.size)
    clear b5 B4 H4
    go_wp2
    go_ret
    exact ⟨rfl, B5⟩
  · obtain ⟨f1, f2⟩ := first_one (HF.out (by omega))
    have hv128 : (v : Int) < 128 := by omega
    have HZ : Hid ((v : Int) = ((dig v (grp v - 1) : Nat) : Int)) := by
      show (v : Int) = ((dig v (grp v - 1) : Nat) : Int)
      rw [f1]
    clear f1 f2 HM HF
    go_enter Try.func5, Try.ntmps5
    go_wp2_with (go_at_call 14; go_in)
    refine (clone_any a 0 cap [] _ HC.out (Src.empty a) (by omega)).mono ?_
    rintro e w1 ⟨a1, rfl, s1, b1⟩
    go_wp2_with fail
    refine (HB.out _).mono ?_
    rintro e w2 ⟨rfl, hw2⟩
    replace hw2 := hw2.symm
    subst hw2
    go_wp2_with fail
    refine (ZZAppendArc_any a1 0 [] v _ s1 (by omega) HV.out).mono ?_
    rintro e w4 ⟨g4, c4, rfl, k4, m4, r4, b4⟩
    have B4 : Below w.heap.size w w4 := b1.trans (b4.mono b1.size)
    have H4 : Hid (w4.cell? ⟨g4, 0, none⟩ = some (.int .u8 (v : Int))) := first_cell r4 HZ.out
    clear r4 b4 b1 s1
    go_wp2_with fail
    refine (peek_any g4 _ c4 (v : Int) _ H4.out (by omega) (by omega)).mono ?_
    rintro e w5 ⟨rfl, b5⟩
    have B5 : Below w.heap.size w w5 := B4.trans (b5.mono B4.size)
    clear b5 B4 H4
    go_wp2
    go_ret
    exact ⟨rfl, B5⟩

theorem law5_main (a : Option Addr) (n cap : Nat) (Z : List Int) (v : Nat) (w : World) (hcap : a = none → cap = 0) (hs : Src w a n Z) (hn : n ≤ 1048576) (hv : v < 18446744073709551616) :
    Calls Try.prog 5 #[.slice a n cap, .int .u64 (v : Int)] w fun e w' => e = .returned (.bool true) ∧ Below w.heap.size w w' := by
  by_cases h0 : n = 0
  · subst h0; exact law5_bare a cap v w hcap hv
  · exact law5_full a n cap Z v w hcap hs hn hv (by omega)

theorem law5_out (a : Option Addr) (n cap : Nat) (v : Int) (w : World) (h : 1048576 < n) :
    Calls Try.prog 5 #[.slice a n cap, .int .u64 v] w fun e w' => e = .returned (.bool true) ∧ Below w.heap.size w w' := by
  go_enter Try.func5, Try.ntmps5
  go_wp2
  go_ret
  exact ⟨rfl, Below.refl _ _⟩
end Go.Proofs.Qxb6619315a
