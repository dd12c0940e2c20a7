/-
  THE WALK of FnSkipStringShiftAndCut.
-/
import Derived.Test.Qxb6619262aWalkStr
import Derived.Deep.DeepCutAuto
namespace Go.Proofs.Qxb6619262a
open Go.ChangeShapes Go.WideShapes Go.ChangeAt Go.RowKit
open Plain
set_option linter.unusedVariables false

theorem strAt_cases (zs : List Int) (i : Nat) (hi : i < zs.length) :
    (strAt zs (i + 1) = -1 ∧ strAt (zs.drop i) (0 + 1) = -1) ∨
    ∃ r : Nat, i + 2 ≤ r ∧ r ≤ zs.length ∧ strAt zs (i + 1) = (r : Int) ∧ strAt (zs.drop i) (0 + 1) = (r : Int) - (i : Int) ∧ strAt (zs.take r) (i + 1) = (r : Int) ∧ zs.getD (r - 1) 0 = 34 := by
  unfold strAt
  rw [List.drop_drop]
  cases h : str (zs.drop (i + 1)) with
  | none => exact .inl ⟨rfl, rfl⟩
  | some m =>
    obtain ⟨h0, h1, h2, h3⟩ := str_some h
    rw [List.length_drop] at h1
    refine .inr ⟨i + 1 + m, by omega, by omega, by simp, ?_, ?_, ?_⟩
    · simp only [Int.natCast_add]; omega
    · rw [List.drop_take, show i + 1 + m - (i + 1) = m from by omega, h3]; simp
    · rw [getD_drop] at h2; rw [show i + 1 + m - 1 = i + 1 + (m - 1) from by omega]; exact h2

set_option maxRecDepth 100000 in
set_option maxHeartbeats 1000000 in
theorem law7_main (x : Addr) (n cap : Nat) (Z : List Int) (i : Nat) (w : World) (hZ : Z.length = n) (hx : ∀ k, k < n → w.cell? (x.add k) = some (.int .u8 (Z.getD k 0))) (hn : n ≤ 1048576) (hi : i < n) :
    Calls Try.prog 7 #[.slice (some x) n cap, .int .i64 i] w fun e w' => e = .returned (.bool true) ∧ Below w.heap.size w w' := by
  have q22 : ∀ (w : World) (a : Option Addr) (n c n' c' : Nat), (binOp .neq 22 (.slice a n c) (.slice none n' c')).run Try.prog w = .ok (.bool (!a.isNone)) w := fun w a n c n' c' => run_neq_slice_nil_any w _ _ a n c n' c' Try.underlying22
  have HZ : Hid (Z.length = n) := hZ
  have HX : Hid (∀ k, k < n → w.cell? (x.add k) = some (.int .u8 (Z.getD k 0))) := hx
  clear hZ hx
  have hmk := run_make_row' (P := Try.prog) 22 5 (.int .u8 0) 1 Try.underlying22 Try.info5 rfl .i64 .i64 n (by omega) (by omega)
  go_enter Try.func7, Try.ntmps7
  go_upto_region 9 with (go_at_call 16; go_in)
  go_wp2_with (refine copy_fresh rfl (.tmp 29) (.tmp 30) rfl x n cap rfl rfl Z HZ HX ?_; intro w2 hr hB hsz; clear HX hmk q22)
  rcases strAt_cases Z i (by rw [HZ.out]; exact hi) with ⟨a1, a2⟩ | ⟨r, m0, m1, a1, a2, a3, a4⟩
  · have A1 : Hid (strAt Z (i + 1) = -1) := a1
    have A2 : Hid (strAt (Z.drop i) (0 + 1) = -1) := a2
    clear a1 a2
    refine (ZZskipString_any _ _ _ _ Z i _ (by omega) (by omega) hr).mono ?_
    rintro e w' ⟨rfl, rfl⟩
    rw [A1.out]
    go_wp2_with fail
    refine (ZZskipString_any _ _ _ _ (Z.drop i) 0 _ (by omega) (by omega) (hr.drop (by omega))).mono ?_
    rintro e w' ⟨rfl, rfl⟩
    rw [A2.out]
    go_wp2
    go_ret
    exact ⟨rfl, hB⟩
  · rw [HZ.out] at m1
    have A1 : Hid (strAt Z (i + 1) = (r : Int)) := a1
    have A2 : Hid (strAt (Z.drop i) (0 + 1) = (r : Int) - (i : Int)) := a2
    have A3 : Hid (strAt (Z.take r) (i + 1) = (r : Int)) := a3
    have hq := hr.2 (r - 1) (by omega)
    rw [a4, Nat.zero_add] at hq
    clear a1 a2 a3 a4
    refine (ZZskipString_any _ _ _ _ Z i _ (by omega) (by omega) hr).mono ?_
    rintro e w' ⟨rfl, rfl⟩
    rw [A1.out]
    go_wp2_with fail
    refine (ZZskipString_any _ _ _ _ (Z.drop i) 0 _ (by omega) (by omega) (hr.drop (by omega))).mono ?_
    rintro e w' ⟨rfl, rfl⟩
    rw [A2.out]
    go_wp2_with fail
    refine (ZZskipString_any _ _ _ _ (Z.take r) i _ (by omega) (by omega) (hr.take (by omega))).mono ?_
    rintro e w' ⟨rfl, rfl⟩
    rw [A3.out]
    go_wp2
    go_ret
    exact ⟨rfl, hB⟩

theorem law7_out (a : Option Addr) (n cap : Nat) (i : Int) (w : World) (h : 1048576 < n ∨ i < 0 ∨ (n : Int) ≤ i) :
    Calls Try.prog 7 #[.slice a n cap, .int .i64 i] w fun e w' => e = .returned (.bool true) ∧ Below w.heap.size w w' := by
  by_cases hn : 1048576 < n
  · clear h
    go_enter Try.func7, Try.ntmps7
    go_wp2
    go_ret
    exact ⟨rfl, Below.refl _ _⟩
  · have hn' : n ≤ 1048576 := by omega
    by_cases hi : i < 0
    · clear h
      go_enter Try.func7, Try.ntmps7
      go_wp2
      go_ret
      exact ⟨rfl, Below.refl _ _⟩
    · have hi0 : 0 ≤ i := by omega
      have hi1 : (n : Int) ≤ i := by omega
      clear h
      go_enter Try.func7, Try.ntmps7
      go_wp2
      go_ret
      exact ⟨rfl, Below.refl _ _⟩
end Go.Proofs.Qxb6619262a
