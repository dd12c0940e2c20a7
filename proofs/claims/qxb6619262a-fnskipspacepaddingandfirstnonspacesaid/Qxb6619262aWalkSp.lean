/-
  WALKS: skipSpace, isSpaceByte, spaceByte.
-/
import Derived.Test.Qxb6619262aCommon
import Derived.Test.Qxb6619262aPlainStr
namespace Go.Proofs.Qxb6619262a
open Go.ChangeShapes Go.WideShapes Go.ChangeAt Go.RowKit
open Plain
set_option linter.unusedVariables false

/-- What skipSpace answers. -/
def spAt (zs : List Int) (i : Nat) : Int := (i : Int) + sps (zs.drop i)
def spByte (k : Nat) : Int := if k % 4 = 0 then 32 else if k % 4 = 1 then 9 else if k % 4 = 2 then 10 else 13
theorem spB_spByte (k : Nat) : spB (spByte k) = true := by
  unfold spByte; split
  · rfl
  · split
    · rfl
    · split <;> rfl
theorem spB_true {c : Int} (h : spB c = true) : c = 32 ∨ c = 9 ∨ c = 10 ∨ c = 13 := by
  simp [spB] at h; omega
theorem spB_false {c : Int} (h : spB c = false) : (c == 32) = false ∧ (c == 9) = false ∧ (c == 10) = false ∧ (c == 13) = false := by
  simp only [spB, Bool.or_eq_false_iff] at h
  exact ⟨h.1.1.1, h.1.1.2, h.1.2, h.2⟩

theorem isSpace_yes (c : Int) (w : World) (h : spB c = true) : Calls Try.prog 19 #[.int .u8 c] w fun e w' => e = .returned (.bool true) ∧ w' = w := by
  rcases spB_true h with rfl | rfl | rfl | rfl
  all_goals
    clear h
    go_enter Try.func19, Try.ntmps19
    go_wp2
    go_ret
    exact ⟨rfl, rfl⟩
theorem isSpace_no (c : Int) (w : World) (h : spB c = false) : Calls Try.prog 19 #[.int .u8 c] w fun e w' => e = .returned (.bool false) ∧ w' = w := by
  obtain ⟨h1, h2, h3, h4⟩ := spB_false h
  clear h
  go_enter Try.func19, Try.ntmps19
  go_wp2
  go_ret
  exact ⟨rfl, rfl⟩

theorem spaceByte_any (k : Nat) (w : World) (hk : k ≤ 65536) : Calls Try.prog 20 #[.int .i64 (k : Int)] w fun e w' => e = .returned (.int .u8 (spByte k)) ∧ w' = w := by
  have hc : k % 4 = 0 ∨ k % 4 = 1 ∨ k % 4 = 2 ∨ k % 4 = 3 := by omega
  rcases hc with h | h | h | h
  · rw [show spByte k = 32 from by unfold spByte; rw [if_pos h]]
    have h' : (k : Int) % 4 = 0 := by omega
    clear h
    go_enter Try.func20, Try.ntmps20
    go_wp2
    go_ret
    exact ⟨rfl, rfl⟩
  · rw [show spByte k = 9 from by unfold spByte; rw [if_neg (by omega), if_pos h]]
    have h' : (k : Int) % 4 = 1 := by omega
    clear h
    go_enter Try.func20, Try.ntmps20
    go_wp2
    go_ret
    exact ⟨rfl, rfl⟩
  · rw [show spByte k = 10 from by unfold spByte; rw [if_neg (by omega), if_neg (by omega), if_pos h]]
    have h' : (k : Int) % 4 = 2 := by omega
    clear h
    go_enter Try.func20, Try.ntmps20
    go_wp2
    go_ret
    exact ⟨rfl, rfl⟩
  · rw [show spByte k = 13 from by unfold spByte; rw [if_neg (by omega), if_neg (by omega), if_neg (by omega)]]
    have h' : (k : Int) % 4 = 3 := by omega
    clear h
    go_enter Try.func20, Try.ntmps20
    go_wp2
    go_ret
    exact ⟨rfl, rfl⟩

/-- At the text's end or past it. -/
theorem skipSpace_past (a : Option Addr) (n c : Nat) (i : Int) (w : World) (hi : (n : Int) ≤ i) :
    Calls Try.prog 24 #[.slice a n c, .int .i64 i] w fun e w' => e = .returned (.int .i64 i) ∧ w' = w := by
  go_enter Try.func24, Try.ntmps24
  go_wp2
  refine wp_loop_rounds 1 ?_
  rw [rounds_succ]
  go_wp2
  go_ret
  exact ⟨rfl, rfl⟩

set_option maxRecDepth 100000 in
set_option maxHeartbeats 1000000 in
theorem skipSpace_any (b off n c : Nat) (zs : List Int) (i : Nat) (w : World) (hn : n ≤ 4194304) (hi : i ≤ n) (hr : Row w b off n zs) :
    Calls Try.prog 24 #[.slice (some ⟨b, off, none⟩) n c, .int .i64 i] w fun e w' => e = .returned (.int .i64 (spAt zs i)) ∧ w' = w := by
  have hd' : i + sps (zs.drop i) ≤ n := by
    have hd := sps_le (zs.drop i)
    rw [List.length_drop, hr.1] at hd
    omega
  obtain ⟨D, hD⟩ : ∃ D, D = sps (zs.drop i) := ⟨_, rfl⟩
  have HD : Hid (D = sps (zs.drop i)) := hD
  rw [← hD] at hd'
  clear hD
  have HE : Hid ((i : Int) + (D : Int) = spAt zs i) := by
    show (i : Int) + (D : Int) = spAt zs i
    unfold spAt; rw [HD.out]
  go_enter Try.func24, Try.ntmps24
  go_wp2
  go_loop [1] (fun t => ∃ k : Nat, k ≤ D ∧ t = .int .i64 ((i : Int) + (k : Int))) (fun t => n - (intOf t).toNat)
  case atStart => exact ⟨0, Nat.zero_le _, by go_num⟩
  case round =>
    obtain ⟨k, hk, rfl⟩ := hrel
    by_cases hlt : k < D
    · have hb := sps_lt (l := zs.drop i) (k := k) (by rw [← HD.out]; exact hlt)
      rw [getD_drop] at hb
      obtain ⟨z, hz1, HZ⟩ := hr.byteAt (k := i + k) (by omega)
      rw [HZ.out] at hb
      have hin : i + k < n := by omega
      clear HZ
      rcases spB_true hb with rfl | rfl | rfl | rfl
      all_goals
        clear hb
        go_wp2
        go_round
        case rel => exact ⟨k + 1, by omega, by go_num⟩
        case measure => simp [intOf]; omega
    · obtain rfl : k = D := by omega
      by_cases hin : i + k < n
      · have hs := sps_stop (l := zs.drop i) (by rw [← HD.out, List.length_drop, hr.1]; omega)
        rw [← HD.out, getD_drop] at hs
        obtain ⟨z, hz1, HZ⟩ := hr.byteAt (k := i + k) (by omega)
        rw [HZ.out] at hs
        obtain ⟨h1, h2, h3, h4⟩ := spB_false hs
        clear hs HZ
        go_wp2
        go_ret
        exact ⟨ret_int HE.out, rfl⟩
      · go_wp2
        go_ret
        exact ⟨ret_int HE.out, rfl⟩

theorem ZZskipSpace_any (b off n c : Nat) (zs : List Int) (i : Nat) (w : World) (hn : n ≤ 4194304) (hi : i ≤ n) (hr : Row w b off n zs) :
    Calls Try.prog 18 #[.slice (some ⟨b, off, none⟩) n c, .int .i64 i] w fun e w' => e = .returned (.int .i64 (spAt zs i)) ∧ w' = w := by
  go_enter Try.func18, Try.ntmps18
  go_wp2_with (go_at_call 24; refine (skipSpace_any b off n c zs i _ hn hi hr).mono ?_; rintro e w' ⟨rfl, rfl⟩)
  go_ret
  exact ⟨rfl, rfl⟩
theorem ZZskipSpace_past (a : Option Addr) (n c : Nat) (i : Int) (w : World) (hi : (n : Int) ≤ i) :
    Calls Try.prog 18 #[.slice a n c, .int .i64 i] w fun e w' => e = .returned (.int .i64 i) ∧ w' = w := by
  go_enter Try.func18, Try.ntmps18
  go_wp2_with (go_at_call 24; refine (skipSpace_past a n c i _ hi).mono ?_; rintro e w' ⟨rfl, rfl⟩)
  go_ret
  exact ⟨rfl, rfl⟩
end Go.Proofs.Qxb6619262a
