/-
  WALKS: skipDigits, skipNumber.
-/
import Derived.Test.Qxb6619262aCommon
import Derived.Test.Qxb6619262aPlainNum
import Derived.WalkKit
import Derived.ProofKit
import Derived.Below
import Derived.Deep.DeepCutAuto
import Derived.Deep.CutBlock
import Derived.Outline
namespace Go.Proofs.Qxb6619262a
open Go.ChangeShapes Go.WideShapes Go.ChangeAt Go.RowKit
open Plain
set_option linter.unusedVariables false

theorem digAt_zero {zs : List Int} {i : Nat} (h : digs (zs.drop i) = 0) : digAt zs i = -1 := by
  unfold digAt digs1; rw [if_pos h]
theorem digAt_pos {zs : List Int} {i : Nat} (h : digs (zs.drop i) ≠ 0) : digAt zs i = (i : Int) + digs (zs.drop i) := by
  unfold digAt digs1; rw [if_neg h]

set_option maxHeartbeats 400000 in
theorem skipDigits_any (b off n c : Nat) (zs : List Int) (i : Nat) (w : World) (hn : n ≤ 4194304) (hi : i ≤ n) (hr : Row w b off n zs) :
    Calls Try.prog 25 #[.slice (some ⟨b, off, none⟩) n c, .int .i64 i] w fun e w' => e = .returned (.int .i64 (digAt zs i)) ∧ w' = w := by
  have hd' : i + digs (zs.drop i) ≤ n := by
    have hd := digs_le (zs.drop i)
    rw [List.length_drop, hr.1] at hd
    omega
  obtain ⟨D, hD⟩ : ∃ D, D = digs (zs.drop i) := ⟨_, rfl⟩
  have HD : Hid (D = digs (zs.drop i)) := hD
  rw [← hD] at hd'
  clear hD
  go_enter Try.func25, Try.ntmps25
  go_wp2
  go_loop [1] (fun t => ∃ k : Nat, k ≤ D ∧ t = .int .i64 ((i + k : Nat) : Int)) (fun t => n - (intOf t).toNat)
  case atStart => exact ⟨0, Nat.zero_le _, rfl⟩
  case round =>
    obtain ⟨k, hk, rfl⟩ := hrel
    by_cases hlt : k < D
    · have hb := digs_lt (l := zs.drop i) (k := k) (by rw [← HD.out]; exact hlt)
      rw [getD_drop] at hb
      have hck := hr.2 (i + k) (by omega)
      have hin : i + k < n := by omega
      generalize zs.getD (i + k) 0 = z at hb hck
      obtain ⟨h48, h57⟩ := hb
      go_wp2
      go_round
      case rel => exact ⟨k + 1, by omega, by go_num⟩
      case measure => simp [intOf]; omega
    · obtain rfl : k = D := by omega
      by_cases h0 : k = 0
      · have E0 : Hid (-1 = digAt zs i) := (digAt_zero (by rw [← HD.out]; exact h0)).symm
        by_cases hin : i + k < n
        · have hs := digs_stop (l := zs.drop i) (by rw [← HD.out, List.length_drop, hr.1]; omega)
          rw [← HD.out, getD_drop] at hs
          have hck := hr.2 (i + k) (by omega)
          generalize zs.getD (i + k) 0 = z at hs hck
          subst h0
          simp only [Nat.add_zero] at hck hin ⊢
          by_cases h48 : 48 ≤ z
          · have h57 : ¬ z ≤ 57 := fun h => hs ⟨h48, h⟩
            clear hs
            go_wp2
            go_ret
            exact ⟨ret_int E0.out, rfl⟩
          · clear hs
            go_wp2
            go_ret
            exact ⟨ret_int E0.out, rfl⟩
        · subst h0
          simp only [Nat.add_zero] at hin ⊢
          go_wp2
          go_ret
          exact ⟨ret_int E0.out, rfl⟩
      · have h0' : 0 < k := by omega
        have E1 : Hid ((i : Int) + k = digAt zs i) := by
          show (i : Int) + k = digAt zs i
          rw [digAt_pos (by rw [← HD.out]; omega), ← HD.out]
        clear h0
        by_cases hin : i + k < n
        · have hs := digs_stop (l := zs.drop i) (by rw [← HD.out, List.length_drop, hr.1]; omega)
          rw [← HD.out, getD_drop] at hs
          have hck := hr.2 (i + k) (by omega)
          generalize zs.getD (i + k) 0 = z at hs hck
          by_cases h48 : 48 ≤ z
          · have h57 : ¬ z ≤ 57 := fun h => hs ⟨h48, h⟩
            clear hs
            go_wp2
            go_ret
            exact ⟨ret_int E1.out, rfl⟩
          · clear hs
            go_wp2
            go_ret
            exact ⟨ret_int E1.out, rfl⟩
        · go_wp2
          go_ret
          exact ⟨ret_int E1.out, rfl⟩
set_option maxHeartbeats 1000000 in
theorem skipNumber_any (b off n c : Nat) (zs : List Int) (i : Nat) (w : World) (hn : n ≤ 4194304) (hi : i < n) (hr : Row w b off n zs) :
    Calls Try.prog 21 #[.slice (some ⟨b, off, none⟩) n c, .int .i64 i] w fun e w' => e = .returned (.int .i64 (numAt zs i)) ∧ w' = w := by
  obtain ⟨N, hN⟩ : ∃ N, N = numAt zs i := ⟨_, rfl⟩
  have HN : Hid (N = numAt zs i) := hN
  rw [← hN]
  clear hN
  have hL := hr.1
  have HL : Hid (zs.length = n) := hL
  clear hL
  obtain ⟨z, hi1, HZ⟩ := hr.byteAt hi
  go_enter Try.func21, Try.ntmps21
  go_upto_if 9 with fail
  go_cut [1] from 5 to 11 (fun t w' => w' = w ∧ ∃ j : Nat, j ≤ n ∧ t = .int .i64 j ∧ Hid (N = intAt zs j))
  case first =>
    by_cases h45 : z = 45
    · have E : Hid (N = intAt zs (i + 1)) := by
        show N = intAt zs (i + 1)
        rw [HN.out]; exact sign_minus (by rw [HL.out]; exact hi) (by rw [HZ.out]; exact h45)
      subst h45
      go_wp2
      go_meet
      case rel => exact ⟨rfl, i + 1, by omega, by go_num, E⟩
    · have E : Hid (N = intAt zs i) := by
        show N = intAt zs i
        rw [HN.out]; exact sign_none (by rw [HL.out]; exact hi) (by rw [HZ.out]; exact h45)
      have h45' := ne_bool h45
      clear h45
      go_wp2
      go_meet
      case rel => exact ⟨rfl, i, by omega, by go_num, E⟩
  case rest =>
    obtain ⟨rfl, j, hj, rfl, HJ⟩ := hcut
    clear HZ hi1 HN hi
    go_upto_block 0 with fail
    go_cut [1] from 12 to 29 (fun t w' => w' = wc ∧ ∃ j : Nat, j ≤ n ∧ t = .int .i64 j ∧ Hid (N = fracAt zs j))
    case first =>
      by_cases hjn : j < n
      · obtain ⟨z, hz1, HZ⟩ := hr.byteAt hjn
        by_cases h48 : z = 48
        · have E : Hid (N = fracAt zs (j + 1)) := by
            show N = fracAt zs (j + 1)
            rw [HJ.out]; exact int_zero (by rw [HL.out]; exact hjn) (by rw [HZ.out]; exact h48)
          subst h48
          go_wp2
          go_meet
          case rel => exact ⟨rfl, j + 1, by omega, by go_num, E⟩
        · rcases digAt_cases zs j with ⟨d1, d2⟩ | ⟨m, d1, d2, d3, d4⟩
          · have E : Hid (-1 = N) := by
              show -1 = N
              rw [HJ.out]; exact (int_none (by rw [HL.out]; exact hjn) (by rw [HZ.out]; exact h48) d1).symm
            have D : Hid (digAt zs j = -1) := d2
            have h48' := ne_bool h48
            clear h48 d1 d2
            go_wp2_with (go_at_call 25; refine (skipDigits_any b off n c zs j _ hn (by omega) hr).mono ?_; rintro e w' ⟨rfl, rfl⟩; rw [D.out])
            go_ret
            exact ⟨ret_int E.out, rfl⟩
          · have E : Hid (N = fracAt zs (j + m)) := by
              show N = fracAt zs (j + m)
              rw [HJ.out]; exact int_some (by rw [HL.out]; exact hjn) (by rw [HZ.out]; exact h48) d1
            rw [HL.out] at d3
            have D : Hid (digAt zs j = ((j + m : Nat) : Int)) := d4
            have h48' := ne_bool h48
            clear h48 d1 d4
            go_wp2_with (go_at_call 25; refine (skipDigits_any b off n c zs j _ hn (by omega) hr).mono ?_; rintro e w' ⟨rfl, rfl⟩; rw [D.out])
            go_meet
            case rel => exact ⟨rfl, j + m, by omega, by go_num, E⟩
      · have E : Hid (-1 = N) := by
          show -1 = N
          rw [HJ.out]; exact (int_end (by rw [HL.out]; omega)).symm
        go_wp2
        go_ret
        exact ⟨ret_int E.out, rfl⟩
    case rest =>
      obtain ⟨rfl, j, hj, rfl, HJ⟩ := hcut
      go_upto_region 10 with fail
      go_cut [40] from 30 to 40 (fun t w' => w' = wc ∧ ∃ B : Bool, t = .bool B ∧ Hid (B = true ↔ (j < n ∧ zs.getD j 0 = 46)))
      case first =>
        by_cases hjn : j < n
        · obtain ⟨z, hz1, HZ⟩ := hr.byteAt hjn
          by_cases h46 : z = 46
          · have E : Hid (j < n ∧ zs.getD j 0 = 46) := ⟨hjn, by rw [HZ.out]; exact h46⟩
            subst h46
            go_wp2
            go_meet
            case rel => exact ⟨rfl, true, rfl, ⟨fun _ => E.out, fun _ => rfl⟩⟩
          · have E : Hid (false = true ↔ (j < n ∧ zs.getD j 0 = 46)) := ⟨fun h => by (cases h), fun h => absurd (HZ.out ▸ h.2) h46⟩
            have h46' := ne_bool h46
            clear h46
            go_wp2
            go_meet
            case rel => exact ⟨rfl, false, rfl, E⟩
        · have E : Hid (false = true ↔ (j < n ∧ zs.getD j 0 = 46)) := ⟨fun h => by (cases h), fun h => absurd h.1 hjn⟩
          go_wp2
          go_meet
          case rel => exact ⟨rfl, false, rfl, E⟩
      case rest =>
        obtain ⟨rfl, B, rfl, HB⟩ := hcut
        go_upto_if 40 with fail
        go_cut [1] from 40 to 46 (fun t w' => w' = wc ∧ ∃ j : Nat, j ≤ n ∧ t = .int .i64 j ∧ Hid (N = expAt zs j))
        case first =>
          cases B with
          | true =>
            obtain ⟨hjn, h46⟩ := HB.out.1 rfl
            clear HB
            rcases digAt_cases zs (j + 1) with ⟨d1, d2⟩ | ⟨m, d1, d2, d3, d4⟩
            · have E : Hid (-1 = N) := by
                show -1 = N
                rw [HJ.out]; exact (frac_none (by rw [HL.out]; exact hjn) h46 d1).symm
              have D : Hid (digAt zs (j + 1) = -1) := d2
              clear d1 d2 h46
              go_wp2_with (go_at_call 25; refine (skipDigits_any b off n c zs (j + 1) _ hn (by omega) hr).mono ?_; rintro e w' ⟨rfl, rfl⟩; rw [D.out])
              go_ret
              exact ⟨ret_int E.out, rfl⟩
            · have E : Hid (N = expAt zs (j + 1 + m)) := by
                show N = expAt zs (j + 1 + m)
                rw [HJ.out]; exact frac_some (by rw [HL.out]; exact hjn) h46 d1
              rw [HL.out] at d3
              have D : Hid (digAt zs (j + 1) = ((j + 1 + m : Nat) : Int)) := d4
              clear d1 d4 h46
              go_wp2_with (go_at_call 25; refine (skipDigits_any b off n c zs (j + 1) _ hn (by omega) hr).mono ?_; rintro e w' ⟨rfl, rfl⟩; rw [D.out])
              go_meet
              case rel => exact ⟨rfl, j + 1 + m, by omega, by go_num, E⟩
          | false =>
            have E : Hid (N = expAt zs j) := by
              show N = expAt zs j
              rw [HJ.out]
              by_cases hjn : j < n
              · exact frac_no (by rw [HL.out]; exact hjn) (fun h => by cases HB.out.2 ⟨hjn, h⟩)
              · exact frac_end (by rw [HL.out]; omega)
            clear HB
            go_wp2
            go_meet
            case rel => exact ⟨rfl, j, hj, rfl, E⟩
        case rest =>
          clear HB HJ hj
          obtain ⟨rfl, k, hk, rfl, HK⟩ := hcut
          by_cases hkn : k < n
          · obtain ⟨z, hz1, HZ⟩ := hr.byteAt hkn
            by_cases he : z = 101 ∨ z = 69
            · have hg : zs.getD k 0 = 101 ∨ zs.getD k 0 = 69 := by rw [HZ.out]; exact he
              by_cases hk1 : k + 1 < n
              · obtain ⟨y, hy1, HY⟩ := hr.byteAt hk1
                by_cases hs : y = 43 ∨ y = 45
                · have E : Hid (digAt zs (k + 2) = N) := by
                    show digAt zs (k + 2) = N
                    rw [HK.out]; exact (exp_sgn (by rw [HL.out]; exact hkn) hg (by rw [HL.out]; exact hk1) (by rw [HY.out]; exact hs)).symm
                  clear hg HK
                  rcases he with rfl | rfl <;> rcases hs with rfl | rfl
                  all_goals
                    go_wp2_with (go_at_call 25; refine (skipDigits_any b off n c zs (k + 2) _ hn (by omega) hr).mono ?_; rintro e w' ⟨rfl, rfl⟩; rw [E.out])
                    go_ret
                    exact ⟨rfl, rfl⟩
                · have E : Hid (digAt zs (k + 1) = N) := by
                    show digAt zs (k + 1) = N
                    rw [HK.out]; exact (exp_bare (by rw [HL.out]; exact hkn) hg (by rw [HL.out]; exact hk1) (by rw [HY.out]; exact fun h => hs (.inl h)) (by rw [HY.out]; exact fun h => hs (.inr h))).symm
                  have h43 : (y == 43) = false := ne_bool fun h => hs (.inl h)
                  have h45 : (y == 45) = false := ne_bool fun h => hs (.inr h)
                  clear hg HK hs
                  rcases he with rfl | rfl
                  all_goals
                    go_wp2_with (go_at_call 25; refine (skipDigits_any b off n c zs (k + 1) _ hn (by omega) hr).mono ?_; rintro e w' ⟨rfl, rfl⟩; rw [E.out])
                    go_ret
                    exact ⟨rfl, rfl⟩
              · have E : Hid (digAt zs (k + 1) = N) := by
                  show digAt zs (k + 1) = N
                  rw [HK.out]; exact (exp_last (by rw [HL.out]; exact hkn) hg (by rw [HL.out]; omega)).symm
                clear hg HK
                rcases he with rfl | rfl
                all_goals
                  go_wp2_with (go_at_call 25; refine (skipDigits_any b off n c zs (k + 1) _ hn (by omega) hr).mono ?_; rintro e w' ⟨rfl, rfl⟩; rw [E.out])
                  go_ret
                  exact ⟨rfl, rfl⟩
            · have E : Hid ((k : Int) = N) := by
                show (k : Int) = N
                rw [HK.out]; exact (exp_no (by rw [HL.out]; exact hkn) (by rw [HZ.out]; exact fun h => he (.inl h)) (by rw [HZ.out]; exact fun h => he (.inr h))).symm
              have h101 : (z == 101) = false := ne_bool fun h => he (.inl h)
              have h69 : (z == 69) = false := ne_bool fun h => he (.inr h)
              clear he
              go_wp2
              go_ret
              exact ⟨ret_int E.out, rfl⟩
          · have E : Hid ((k : Int) = N) := by
              show (k : Int) = N
              rw [HK.out]; exact (exp_end (by rw [HL.out]; omega)).symm
            go_wp2
            go_ret
            exact ⟨ret_int E.out, rfl⟩
theorem ZZskipNumber_any (b off n c : Nat) (zs : List Int) (i : Nat) (w : World) (hn : n ≤ 4194304) (hi : i < n) (hr : Row w b off n zs) :
    Calls Try.prog 10 #[.slice (some ⟨b, off, none⟩) n c, .int .i64 i] w fun e w' => e = .returned (.int .i64 (numAt zs i)) ∧ w' = w := by
  go_enter Try.func10, Try.ntmps10
  go_wp2_with (go_at_call 21; refine (skipNumber_any b off n c zs i _ hn hi hr).mono ?_; rintro e w' ⟨rfl, rfl⟩)
  go_ret
  exact ⟨rfl, rfl⟩
end Go.Proofs.Qxb6619262a
