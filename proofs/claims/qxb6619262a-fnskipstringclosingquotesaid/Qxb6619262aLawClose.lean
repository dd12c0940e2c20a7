/-
  THE WALKS of stringEnd and of FnSkipStringClosingQuote.
-/
import Derived.Test.Qxb6619262aWalkBody
import Derived.Deep.DeepCutAuto
namespace Go.Proofs.Qxb6619262a
open Go.ChangeShapes Go.WideShapes Go.ChangeAt Go.RowKit
open Plain
set_option linter.unusedVariables false

theorem par_succ (r : Nat) : decide ((r + 1) % 2 = 1) = !(decide (r % 2 = 1)) := by
  by_cases h : r % 2 = 1
  · rw [decide_eq_true h, decide_eq_false (by omega)]; rfl
  · rw [decide_eq_false h, decide_eq_true (by omega)]; rfl

set_option maxRecDepth 100000 in
set_option maxHeartbeats 1000000 in
theorem stringEnd_any (b off n c : Nat) (zs : List Int) (i : Nat) (w : World) (hn : n ≤ 4194304) (hi : i ≤ n) (hr : Row w b off n zs) :
    Calls Try.prog 14 #[.slice (some ⟨b, off, none⟩) n c, .int .i64 i] w fun e w' => e = .returned (.int .i64 (strAt zs (i + 1))) ∧ w' = w := by
  obtain ⟨N, hN⟩ : ∃ N, N = strAt zs (i + 1) := ⟨_, rfl⟩
  have HN : Hid (N = strAt zs (i + 1)) := hN
  rw [← hN]
  clear hN
  obtain ⟨Q, hQ⟩ : ∃ Q, Q = fqAt zs false (i + 1) := ⟨_, rfl⟩
  have HQ : Hid (Q = fqAt zs false (i + 1)) := hQ
  clear hQ
  have HQ0 : Hid (Q = fqAt zs (decide (0 % 2 = 1)) (i + 1)) := HQ
  have HL : Hid (zs.length = n) := hr.1
  go_enter Try.func14, Try.ntmps14
  go_wp2
  go_loop [5, 6, 7] (fun s5 s6 s7 => s5 = .int .i64 (-1) ∧ ∃ r k : Nat, r ≤ k ∧ i + 1 ≤ k ∧ k ≤ n + 1 ∧ s6 = .int .i64 (r : Int) ∧ s7 = .int .i64 (k : Int) ∧ Hid (Q = fqAt zs (decide (r % 2 = 1)) k)) (fun _ _ s7 => n + 1 - (intOf s7).toNat)
  case atStart => exact ⟨rfl, 0, i + 1, by omega, by omega, by omega, rfl, by go_num, HQ0⟩
  case round =>
    clear HQ0
    obtain ⟨rfl, r, k, hrk, hik, hkn, rfl, rfl, HK⟩ := hrel
    by_cases hk : k < n
    · obtain ⟨z, hz1, HZ⟩ := hr.byteAt hk
      by_cases h34 : z = 34
      · by_cases hp : r % 2 = 1
        · have hp' : (r : Int) % 2 = 1 := by omega
          have E : Hid (Q = fqAt zs (decide (0 % 2 = 1)) (k + 1)) := by
            show Q = fqAt zs (decide (0 % 2 = 1)) (k + 1)
            rw [HK.out, fqAt_step (by rw [HL.out]; exact hk) (by rw [decide_eq_true hp]; simp), if_neg (by rw [HZ.out]; omega)]; rfl
          subst h34
          clear HK hp
          go_wp2
          go_round
          case rel => exact ⟨rfl, 0, k + 1, by omega, by omega, by omega, rfl, by go_num, E⟩
          case measure => simp [intOf]; omega
        · have hp' : (r : Int) % 2 = 0 := by omega
          have HE : Q = (k : Int) := by
            rw [HK.out, decide_eq_false hp]; exact fqAt_hit (by rw [HL.out]; exact hk) (by rw [HZ.out]; exact h34)
          rcases end_cases zs (i + 1) with ⟨a1, a2⟩ | ⟨q, q1, q2, q3, q4⟩
          · rw [← HQ.out] at a1; omega
          · rw [← HQ.out] at q3
            obtain rfl : q = k := by omega
            subst h34
            clear HK hp HE q3
            rcases q4 with ⟨v1, v2⟩ | ⟨v1, v2⟩
            · have V : Hid (bodyV zs (i + 1) q = true) := v1
              have E : Hid ((q : Int) + 1 = N) := by
                show (q : Int) + 1 = N
                rw [HN.out, v2]
              clear v1 v2
              go_wp2_with (go_at_call 23; refine (body_any b off n c zs (i + 1) q _ hn (by omega) (by omega) hr).mono ?_; rintro e w5 ⟨rfl, rfl⟩; rw [V.out])
              go_ret
              exact ⟨ret_int E.out, rfl⟩
            · have V : Hid (bodyV zs (i + 1) q = false) := v1
              have E : Hid (-1 = N) := by
                show -1 = N
                rw [HN.out, v2]
              clear v1 v2
              go_wp2_with (go_at_call 23; refine (body_any b off n c zs (i + 1) q _ hn (by omega) (by omega) hr).mono ?_; rintro e w5 ⟨rfl, rfl⟩; rw [V.out])
              go_ret
              exact ⟨ret_int E.out, rfl⟩
      · by_cases h92 : z = 92
        · have E : Hid (Q = fqAt zs (decide ((r + 1) % 2 = 1)) (k + 1)) := by
            show Q = fqAt zs (decide ((r + 1) % 2 = 1)) (k + 1)
            rw [HK.out, fqAt_step (by rw [HL.out]; exact hk) (by rw [HZ.out]; exact fun h => h34 h.1), if_pos (by rw [HZ.out]; exact h92), par_succ]
          subst h92
          clear HK h34
          go_wp2
          go_round
          case rel => exact ⟨rfl, r + 1, k + 1, by omega, by omega, by omega, by go_num, by go_num, E⟩
          case measure => simp [intOf]; omega
        · have E : Hid (Q = fqAt zs (decide (0 % 2 = 1)) (k + 1)) := by
            show Q = fqAt zs (decide (0 % 2 = 1)) (k + 1)
            rw [HK.out, fqAt_step (by rw [HL.out]; exact hk) (by rw [HZ.out]; exact fun h => h34 h.1), if_neg (by rw [HZ.out]; exact h92)]; rfl
          have h34' := ne_bool h34
          have h92' := ne_bool h92
          clear HK h34 h92
          go_wp2
          go_round
          case rel => exact ⟨rfl, 0, k + 1, by omega, by omega, by omega, rfl, by go_num, E⟩
          case measure => simp [intOf]; omega
    · have E : Hid (-1 = N) := by
        show -1 = N
        have h1 : Q = -1 := by rw [HK.out]; exact fqAt_end _ (by rw [HL.out]; omega)
        rcases end_cases zs (i + 1) with ⟨a1, a2⟩ | ⟨q, q1, q2, q3, q4⟩
        · rw [HN.out, a2]
        · rw [← HQ.out, h1] at q3; omega
      go_wp2
      go_ret
      exact ⟨ret_int E.out, rfl⟩

theorem stringEnd_empty (a : Option Addr) (c i : Nat) (w : World) (hi : i ≤ 4194304) :
    Calls Try.prog 14 #[.slice a 0 c, .int .i64 i] w fun e w' => e = .returned (.int .i64 (-1)) ∧ w' = w := by
  go_enter Try.func14, Try.ntmps14
  go_wp2
  refine wp_loop_rounds 1 ?_
  rw [rounds_succ]
  go_wp2
  go_ret
  exact ⟨rfl, rfl⟩

set_option maxRecDepth 100000 in
set_option maxHeartbeats 1000000 in
theorem law5_main (x : Addr) (n cap : Nat) (Z : List Int) (i : Nat) (w : World) (hZ : Z.length = n) (hx : ∀ k, k < n → w.cell? (x.add k) = some (.int .u8 (Z.getD k 0))) (hn : n ≤ 1048576) (hi : i ≤ n) :
    Calls Try.prog 5 #[.slice (some x) n cap, .int .i64 i] w fun e w' => e = .returned (.bool true) ∧ Below w.heap.size w w' := by
  have q22 : ∀ (w : World) (a : Option Addr) (n c n' c' : Nat), (binOp .neq 22 (.slice a n c) (.slice none n' c')).run Try.prog w = .ok (.bool (!a.isNone)) w := fun w a n c n' c' => run_neq_slice_nil_any w _ _ a n c n' c' Try.underlying22
  have HZ : Hid (Z.length = n) := hZ
  have HX : Hid (∀ k, k < n → w.cell? (x.add k) = some (.int .u8 (Z.getD k 0))) := hx
  clear hZ hx
  have hmk := run_make_row' (P := Try.prog) 22 5 (.int .u8 0) 1 Try.underlying22 Try.info5 rfl .i64 .i64 n (by omega) (by omega)
  go_enter Try.func5, Try.ntmps5
  go_upto_region 9 with (go_at_call 12; go_in)
  go_wp2_with (refine copy_fresh rfl (.tmp 26) (.tmp 27) rfl x n cap rfl rfl Z HZ HX ?_; intro w2 hr hB hsz; clear HX hmk q22)
  refine (ZZskipString_any _ _ _ _ Z i _ (by omega) (by omega) hr).mono ?_
  rintro e w' ⟨rfl, rfl⟩
  go_wp2_with fail
  refine (stringEnd_any _ _ _ _ Z i _ (by omega) (by omega) hr).mono ?_
  rintro e w' ⟨rfl, rfl⟩
  generalize strAt Z (i + 1) = R
  go_wp2
  go_ret
  exact ⟨ret_bool (by simp), hB⟩

theorem law5_nil (w : World) : Calls Try.prog 5 #[.slice none 0 0, .int .i64 0] w fun e w' => e = .returned (.bool true) ∧ Below w.heap.size w w' := by
  have q22 : ∀ (w : World) (a : Option Addr) (n c n' c' : Nat), (binOp .neq 22 (.slice a n c) (.slice none n' c')).run Try.prog w = .ok (.bool (!a.isNone)) w := fun w a n c n' c' => run_neq_slice_nil_any w _ _ a n c n' c' Try.underlying22
  go_enter Try.func5, Try.ntmps5
  go_wp2_with (first | (go_at_call 12; go_in) | (go_at_call 13; refine (ZZskipString_empty none 0 0 _ (by omega)).mono ?_; rintro e w' ⟨rfl, rfl⟩) | (go_at_call 14; refine (stringEnd_empty none 0 0 _ (by omega)).mono ?_; rintro e w' ⟨rfl, rfl⟩))
  go_ret
  exact ⟨rfl, Below.refl _ _⟩

theorem law5_out (a : Option Addr) (n cap : Nat) (i : Int) (w : World) (h : 1048576 < n ∨ i < 0 ∨ (n : Int) < i) :
    Calls Try.prog 5 #[.slice a n cap, .int .i64 i] w fun e w' => e = .returned (.bool true) ∧ Below w.heap.size w w' := by
  by_cases hn : 1048576 < n
  · clear h
    go_enter Try.func5, Try.ntmps5
    go_wp2
    go_ret
    exact ⟨rfl, Below.refl _ _⟩
  · have hn' : n ≤ 1048576 := by omega
    by_cases hi : i < 0
    · clear h
      go_enter Try.func5, Try.ntmps5
      go_wp2
      go_ret
      exact ⟨rfl, Below.refl _ _⟩
    · have hi0 : 0 ≤ i := by omega
      have hi1 : (n : Int) < i := by omega
      clear h
      go_enter Try.func5, Try.ntmps5
      go_wp2
      go_ret
      exact ⟨rfl, Below.refl _ _⟩
end Go.Proofs.Qxb6619262a
