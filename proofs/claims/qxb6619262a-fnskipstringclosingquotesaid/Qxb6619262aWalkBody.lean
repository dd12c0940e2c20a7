/-
  WALKS: isHexByte, stringBodyValid.
-/
import Derived.Test.Qxb6619262aWalkStr
import Derived.Test.Qxb6619262aPlainBody
namespace Go.Proofs.Qxb6619262a
open Go.ChangeShapes Go.WideShapes Go.ChangeAt Go.RowKit
open Plain
set_option linter.unusedVariables false

set_option maxHeartbeats 400000 in
theorem isHexByte_any (c : Int) (w : World) : Calls Try.prog 27 #[.int .u8 c] w fun e w' => e = .returned (.bool (hexB c)) ∧ w' = w := by
  rcases hex_split c with ⟨h, hh⟩ | ⟨⟨h, g⟩, hh⟩ | ⟨⟨h, g⟩, hh⟩ | ⟨⟨h, g⟩, hh⟩ | ⟨⟨h, g⟩, hh⟩ | ⟨⟨h, g⟩, hh⟩ | ⟨h, hh⟩
  all_goals
    rw [hh]
    clear hh
    go_enter Try.func27, Try.ntmps27
    go_wp2
    go_ret
    first | exact ⟨rfl, rfl⟩ | exact ⟨ret_bool (by simp; omega), rfl⟩

theorem par_next (j k : Nat) (h : k ≤ j) : decide ((j + 1 - k) % 2 = 1) = !(decide ((j - k) % 2 = 1)) := by
  by_cases h1 : (j - k) % 2 = 1
  · rw [decide_eq_true h1, decide_eq_false (by omega)]; rfl
  · rw [decide_eq_false h1, decide_eq_true (by omega)]; rfl

set_option maxRecDepth 100000 in
set_option maxHeartbeats 4000000 in
theorem body_any (b off n c : Nat) (zs : List Int) (a t : Nat) (w : World) (hn : n ≤ 4194304) (hat : a ≤ t) (htn : t ≤ n) (hr : Row w b off n zs) :
    Calls Try.prog 23 #[.slice (some ⟨b, off, none⟩) n c, .int .i64 a, .int .i64 t] w fun e w' => e = .returned (.bool (bodyV zs a t)) ∧ w' = w := by
  obtain ⟨V, hV⟩ : ∃ V, V = bodyV zs a t := ⟨_, rfl⟩
  have HV : Hid (V = (pAt zs t a && rAt zs t false a)) := hV
  rw [← hV]
  clear hV
  have HL : Hid (t ≤ zs.length) := by rw [show zs.length = n from hr.1]; exact htn
  go_enter Try.func23, Try.ntmps23
  go_wp2
  go_loop [7] (fun s => ∃ k : Nat, a ≤ k ∧ k ≤ t ∧ s = .int .i64 (k : Int) ∧ Hid (V = (pAt zs t k && rAt zs t false a))) (fun s => t - (intOf s).toNat)
  case atStart => exact ⟨a, Nat.le_refl _, hat, rfl, HV⟩
  case round =>
    clear HV
    obtain ⟨k, hak, hkt, rfl, HV⟩ := hrel
    by_cases hk : k < t
    · obtain ⟨z, hz1, HZ⟩ := hr.byteAt (k := k) (by omega)
      have hkn : k < n := by omega
      by_cases h32 : z < 32
      · have E : Hid (false = V) := by
          show false = V
          rw [HV.out, pAt_ctl hk HL.out (by rw [HZ.out]; exact h32)]; rfl
        go_wp2
        go_ret
        exact ⟨ret_bool E.out, rfl⟩
      · have E : Hid (V = (pAt zs t (k + 1) && rAt zs t false a)) := by
          show V = (pAt zs t (k + 1) && rAt zs t false a)
          rw [HV.out, pAt_step hk HL.out (by rw [HZ.out]; exact h32)]
        clear HV
        go_wp2
        go_round
        case rel => exact ⟨k + 1, by omega, by omega, by go_num, E⟩
        case measure => simp [intOf]; omega
    · have HV0 : Hid (V = rAt zs t false a) := by
        show V = rAt zs t false a
        rw [HV.out, pAt_end (by omega)]; rfl
      clear HV
      go_wp2
      go_loop [8] (fun s => ∃ k : Nat, a ≤ k ∧ k ≤ t ∧ s = .int .i64 (k : Int) ∧ Hid (V = rAt zs t false k)) (fun s => t - (intOf s).toNat)
      case atStart => exact ⟨a, Nat.le_refl _, hat, rfl, HV0⟩
      case round =>
        clear HV0 hk hkt hak
        obtain ⟨k, hak, hkt, rfl, HV⟩ := hrel
        by_cases hk : k < t
        · obtain ⟨z, hz1, HZ⟩ := hr.byteAt (k := k) (by omega)
          have hkn : k < n := by omega
          by_cases h92 : z = 92
          · have HV1 : Hid (V = rAt zs t (decide ((k - k) % 2 = 1)) k) := by
              show V = rAt zs t (decide ((k - k) % 2 = 1)) k
              rw [Nat.sub_self]; exact HV.out
            subst h92
            clear HV
            go_wp2
            go_loop [8] (fun s => ∃ j : Nat, k ≤ j ∧ j ≤ t ∧ s = .int .i64 (j : Int) ∧ Hid (V = rAt zs t (decide ((j - k) % 2 = 1)) j)) (fun s => t - (intOf s).toNat)
            case atStart => exact ⟨k, Nat.le_refl _, hkt, rfl, HV1⟩
            case round =>
              clear HV1 hz1
              obtain ⟨j, hkj, hjt, rfl, HJ⟩ := hrel
              by_cases hj : j < t
              · obtain ⟨y, hy1, HY⟩ := hr.byteAt (k := j) (by omega)
                have hjn : j < n := by omega
                by_cases hy92 : y = 92
                · have E : Hid (V = rAt zs t (decide ((j + 1 - k) % 2 = 1)) (j + 1)) := by
                    show V = rAt zs t (decide ((j + 1 - k) % 2 = 1)) (j + 1)
                    rw [HJ.out, rAt_bs _ hj HL.out (by rw [HY.out]; exact hy92), par_next j k hkj]
                  subst hy92
                  clear HJ
                  go_wp2
                  go_round
                  case rel => exact ⟨j + 1, by omega, by omega, by go_num, E⟩
                  case measure => simp [intOf]; omega
                · have hkj' : k < j := by
                    rcases Nat.lt_or_ge k j with h | h
                    · exact h
                    · obtain rfl : k = j := by omega
                      exact absurd (HY.out.symm.trans HZ.out) hy92
                  have hy92' := ne_bool hy92
                  by_cases hpar : (j - k) % 2 = 1
                  · have HJ1 : V = rAt zs t true j := by rw [HJ.out, decide_eq_true hpar]
                    have hp : ((j : Int) - (k : Int)) % 2 = 1 := by omega
                    clear HJ hpar
                    by_cases hesc : escB y = true
                    · have E : Hid (V = rAt zs t false (j + 1)) := by
                        show V = rAt zs t false (j + 1)
                        rw [HJ1, rAt_esc hj HL.out (by rw [HY.out]; exact hy92) (by rw [HY.out]; exact hesc)]
                      clear HJ1 HY
                      rcases escB_true hesc with rfl | rfl | rfl | rfl | rfl | rfl | rfl | rfl
                      case inr.inl => exact absurd rfl hy92
                      all_goals
                        clear hesc hy92 hy92'
                        go_wp2
                        go_round
                        case rel => exact ⟨j + 1, by omega, by omega, by go_num, E⟩
                        case measure => simp [intOf]; omega
                    · have hesc' : escB y = false := by simpa using hesc
                      obtain ⟨n1, n2, n3, n4, n5, n6, n7, n8⟩ := escB_false hesc'
                      by_cases h117 : y = 117
                      · by_cases hsh : j + 4 < t
                        · have HJ2 : Hid (V = rAt zs t true j) := HJ1
                          have HU : Hid (zs.getD j 0 = 117) := by
                            show zs.getD j 0 = 117
                            rw [HY.out]; exact h117
                          subst h117
                          clear HJ1 HY n1 n2 n3 n4 n5 n6 n7 n8 hesc hesc' hy92
                          go_wp2
                          go_loop [10] (fun s => ∃ h : Nat, h ≤ 4 ∧ s = .int .i64 ((j : Int) + 1 + (h : Int)) ∧ Hid (∀ q, q < h → hexB (zs.getD (j + 1 + q) 0) = true)) (fun s => j + 5 - (intOf s).toNat)
                          case atStart => exact ⟨0, by omega, by go_num, fun q hq => absurd hq (by omega)⟩
                          case round =>
                            obtain ⟨h, hh4, rfl, HH⟩ := hrel
                            by_cases hh : h < 4
                            · obtain ⟨x, hx1, HX⟩ := hr.byteAt (k := j + 1 + h) (by omega)
                              have hxn : j + 1 + h < n := by omega
                              cases hb : hexB x with
                              | true =>
                                have E : Hid (∀ q, q < h + 1 → hexB (zs.getD (j + 1 + q) 0) = true) := by
                                  intro q hq
                                  by_cases e : q = h
                                  · rw [e, HX.out]; exact hb
                                  · exact HH.out q (by omega)
                                clear HH HX HU HJ2
                                go_wp2_with (go_at_call 27; refine (isHexByte_any _ _).mono ?_; rintro e w5 ⟨rfl, hw5⟩; replace hw5 := hw5.symm; subst hw5)
                                go_round
                                case rel => exact ⟨h + 1, by omega, by go_num, E⟩
                                case measure => simp [intOf]; omega
                              | false =>
                                have E : Hid (false = V) := by
                                  show false = V
                                  rw [HJ2.out]; exact (rAt_u_bad hsh HL.out HU.out hh (by rw [HX.out]; exact hb)).symm
                                clear HH HX HU HJ2
                                go_wp2_with (go_at_call 27; refine (isHexByte_any _ _).mono ?_; rintro e w5 ⟨rfl, hw5⟩; replace hw5 := hw5.symm; subst hw5)
                                go_ret
                                exact ⟨ret_bool E.out, rfl⟩
                            · obtain rfl : h = 4 := by omega
                              have E : Hid (V = rAt zs t false (j + 1)) := by
                                show V = rAt zs t false (j + 1)
                                rw [HJ2.out]; exact rAt_u hsh HL.out HU.out HH.out
                              clear HH HU HJ2
                              go_wp2
                              go_round
                              case rel => exact ⟨j + 1, by omega, by omega, by go_num, E⟩
                              case measure => simp [intOf]; omega
                        · have E : Hid (false = V) := by
                            show false = V
                            rw [HJ1]; exact (rAt_u_short hj HL.out (by rw [HY.out]; exact h117) (by omega)).symm
                          subst h117
                          clear HJ1 HY n1 n2 n3 n4 n5 n6 n7 n8 hesc hesc' hy92
                          go_wp2
                          go_ret
                          exact ⟨ret_bool E.out, rfl⟩
                      · have E : Hid (false = V) := by
                          show false = V
                          rw [HJ1]; exact (rAt_bad hj HL.out (by rw [HY.out]; exact hy92) (by rw [HY.out]; exact hesc') (by rw [HY.out]; exact h117)).symm
                        have h117' := ne_bool h117
                        clear HJ1 HY hesc hesc' hy92 h117
                        go_wp2
                        go_ret
                        exact ⟨ret_bool E.out, rfl⟩
                  · have E : Hid (V = rAt zs t false j) := by
                      show V = rAt zs t false j
                      rw [HJ.out, decide_eq_false hpar]
                    have hp : ((j : Int) - (k : Int)) % 2 = 0 := by omega
                    clear HJ hpar hy92
                    go_wp2
                    go_round
                    case rel => exact ⟨j, by omega, by omega, rfl, E⟩
                    case measure => simp [intOf]; omega
              · obtain rfl : j = t := by omega
                by_cases hpar : (j - k) % 2 = 1
                · have E : Hid (false = V) := by
                    show false = V
                    rw [HJ.out, decide_eq_true hpar, rAt_end _ (Nat.le_refl _)]; rfl
                  have hp : ((j : Int) - (k : Int)) % 2 = 1 := by omega
                  clear HJ hpar
                  go_wp2
                  go_ret
                  exact ⟨ret_bool E.out, rfl⟩
                · have E : Hid (V = rAt zs j false j) := by
                    show V = rAt zs j false j
                    rw [HJ.out, decide_eq_false hpar]
                  have hp : ((j : Int) - (k : Int)) % 2 = 0 := by omega
                  clear HJ hpar
                  go_wp2
                  go_round
                  case rel => exact ⟨j, by omega, by omega, rfl, E⟩
                  case measure => simp [intOf]; omega
          · have E : Hid (V = rAt zs t false (k + 1)) := by
              show V = rAt zs t false (k + 1)
              rw [HV.out, rAt_plain hk HL.out (by rw [HZ.out]; exact h92)]
            have h92' := ne_bool h92
            clear HV h92
            go_wp2
            go_round
            case rel => exact ⟨k + 1, by omega, by omega, by go_num, E⟩
            case measure => simp [intOf]; omega
        · have E : Hid (true = V) := by
            show true = V
            rw [HV.out, rAt_end false (by omega)]; rfl
          go_wp2
          go_ret
          exact ⟨ret_bool E.out, rfl⟩
end Go.Proofs.Qxb6619262a
