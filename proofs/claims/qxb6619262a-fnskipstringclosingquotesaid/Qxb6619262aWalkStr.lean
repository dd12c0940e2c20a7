/-
  WALKS: isHex, skipString.
-/
import Derived.Test.Qxb6619262aCommon
import Derived.Test.Qxb6619262aPlainStr
namespace Go.Proofs.Qxb6619262a
open Go.ChangeShapes Go.WideShapes Go.ChangeAt Go.RowKit
open Plain
set_option linter.unusedVariables false

theorem ret_bool {a b : Bool} (h : a = b) : Ending.returned (.bool a) = .returned (.bool b) := by rw [h]

theorem hex_split (c : Int) : (c < 48 ∧ hexB c = false) ∨ ((48 ≤ c ∧ c ≤ 57) ∧ hexB c = true) ∨ ((58 ≤ c ∧ c < 65) ∧ hexB c = false) ∨ ((65 ≤ c ∧ c ≤ 70) ∧ hexB c = true) ∨ ((71 ≤ c ∧ c < 97) ∧ hexB c = false) ∨ ((97 ≤ c ∧ c ≤ 102) ∧ hexB c = true) ∨ (103 ≤ c ∧ hexB c = false) := by
  have h : (c < 48) ∨ (48 ≤ c ∧ c ≤ 57) ∨ (58 ≤ c ∧ c < 65) ∨ (65 ≤ c ∧ c ≤ 70) ∨ (71 ≤ c ∧ c < 97) ∨ (97 ≤ c ∧ c ≤ 102) ∨ (103 ≤ c) := by omega
  have ht : ((48 ≤ c ∧ c ≤ 57) ∨ (97 ≤ c ∧ c ≤ 102)) ∨ (65 ≤ c ∧ c ≤ 70) → hexB c = true := by intro h; simpa [hexB] using h
  have hf : ¬ (((48 ≤ c ∧ c ≤ 57) ∨ (97 ≤ c ∧ c ≤ 102)) ∨ (65 ≤ c ∧ c ≤ 70)) → hexB c = false := by
    intro h
    cases hx : hexB c with
    | false => rfl
    | true => exact absurd (by simpa [hexB] using hx) h
  rcases h with h | h | h | h | h | h | h
  · exact .inl ⟨h, hf (by omega)⟩
  · exact .inr (.inl ⟨h, ht (by omega)⟩)
  · exact .inr (.inr (.inl ⟨h, hf (by omega)⟩))
  · exact .inr (.inr (.inr (.inl ⟨h, ht (by omega)⟩)))
  · exact .inr (.inr (.inr (.inr (.inl ⟨h, hf (by omega)⟩))))
  · exact .inr (.inr (.inr (.inr (.inr (.inl ⟨h, ht (by omega)⟩)))))
  · exact .inr (.inr (.inr (.inr (.inr (.inr ⟨h, hf (by omega)⟩)))))

set_option maxHeartbeats 400000 in
theorem isHex_any (c : Int) (w : World) : Calls Try.prog 26 #[.int .u8 c] w fun e w' => e = .returned (.bool (hexB c)) ∧ w' = w := by
  rcases hex_split c with ⟨h, hh⟩ | ⟨⟨h, g⟩, hh⟩ | ⟨⟨h, g⟩, hh⟩ | ⟨⟨h, g⟩, hh⟩ | ⟨⟨h, g⟩, hh⟩ | ⟨⟨h, g⟩, hh⟩ | ⟨h, hh⟩
  all_goals
    rw [hh]
    clear hh
    go_enter Try.func26, Try.ntmps26
    go_wp2
    go_ret
    first | exact ⟨rfl, rfl⟩ | exact ⟨ret_bool (by simp; omega), rfl⟩

theorem escB_false {c : Int} (h : escB c = false) : (c == 34) = false ∧ (c == 92) = false ∧ (c == 47) = false ∧ (c == 98) = false ∧ (c == 102) = false ∧ (c == 110) = false ∧ (c == 114) = false ∧ (c == 116) = false := by
  simp only [escB, Bool.or_eq_false_iff] at h
  obtain ⟨⟨⟨⟨⟨⟨⟨h1, h2⟩, h3⟩, h4⟩, h5⟩, h6⟩, h7⟩, h8⟩ := h
  exact ⟨h1, h2, h3, h4, h5, h6, h7, h8⟩
theorem escB_true {c : Int} (h : escB c = true) : c = 34 ∨ c = 92 ∨ c = 47 ∨ c = 98 ∨ c = 102 ∨ c = 110 ∨ c = 114 ∨ c = 116 := by
  simp [escB] at h; omega

set_option maxRecDepth 100000 in
set_option maxHeartbeats 2000000 in
theorem skipString_any (b off n c : Nat) (zs : List Int) (i : Nat) (w : World) (hn : n ≤ 4194304) (hi : i ≤ n) (hr : Row w b off n zs) :
    Calls Try.prog 22 #[.slice (some ⟨b, off, none⟩) n c, .int .i64 i] w fun e w' => e = .returned (.int .i64 (strAt zs (i + 1))) ∧ w' = w := by
  obtain ⟨N, hN⟩ : ∃ N, N = strAt zs (i + 1) := ⟨_, rfl⟩
  have HN : Hid (N = strAt zs (i + 1)) := hN
  rw [← hN]
  clear hN
  have HL : Hid (zs.length = n) := hr.1
  go_enter Try.func22, Try.ntmps22
  go_wp2
  go_loop [1] (fun t => ∃ k : Nat, k ≤ n + 1 ∧ t = .int .i64 (k : Int) ∧ Hid (N = strAt zs k)) (fun t => n + 1 - (intOf t).toNat)
  case atStart => exact ⟨i + 1, by omega, by go_num, HN⟩
  case round =>
    clear HN
    obtain ⟨k, hk, rfl, HK⟩ := hrel
    by_cases hkn : k < n
    · obtain ⟨z, hz1, HZ⟩ := hr.byteAt hkn
      by_cases h34 : z = 34
      · have E : Hid ((k : Int) + 1 = N) := by
          show (k : Int) + 1 = N
          rw [HK.out]; exact (strAt_quote (by rw [HL.out]; exact hkn) (by rw [HZ.out]; exact h34)).symm
        subst h34
        go_wp2
        go_ret
        exact ⟨ret_int E.out, rfl⟩
      by_cases h32 : z < 32
      · have E : Hid (-1 = N) := by
          show -1 = N
          rw [HK.out]; exact (strAt_ctl (by rw [HL.out]; exact hkn) (by rw [HZ.out]; exact h32)).symm
        have h34' := ne_bool h34
        clear h34
        go_wp2
        go_ret
        exact ⟨ret_int E.out, rfl⟩
      by_cases h92 : z = 92
      · by_cases hk1 : k + 1 < n
        · obtain ⟨y, hy1, HY⟩ := hr.byteAt hk1
          by_cases hesc : escB y = true
          · have E : Hid (N = strAt zs (k + 2)) := by
              show N = strAt zs (k + 2)
              rw [HK.out]; exact strAt_esc (by rw [HL.out]; exact hk1) (by rw [HZ.out]; exact h92) (by rw [HY.out]; exact hesc)
            subst h92
            clear h34 h32
            rcases escB_true hesc with rfl | rfl | rfl | rfl | rfl | rfl | rfl | rfl
            all_goals
              clear hesc HK
              go_wp2
              go_round
              case rel => exact ⟨k + 2, by omega, by go_num, E⟩
              case measure => simp [intOf]; omega
          · have hesc' : escB y = false := by simpa using hesc
            obtain ⟨n1, n2, n3, n4, n5, n6, n7, n8⟩ := escB_false hesc'
            by_cases h117 : y = 117
            · by_cases hk5 : k + 5 < n
              · obtain ⟨x2, hx2, X2⟩ := hr.byteAt (k := k + 2) (by omega)
                obtain ⟨x3, hx3, X3⟩ := hr.byteAt (k := k + 3) (by omega)
                obtain ⟨x4, hx4, X4⟩ := hr.byteAt (k := k + 4) (by omega)
                obtain ⟨x5, hx5, X5⟩ := hr.byteAt (k := k + 5) (by omega)
                have EB : (hexB x2 && hexB x3 && hexB x4 && hexB x5) = false → -1 = N := by
                  intro hh
                  rw [HK.out]
                  refine (strAt_u_bad (by rw [HL.out]; exact hk5) (by rw [HZ.out]; exact h92) (by rw [HY.out]; exact h117) ?_).symm
                  rw [X2.out, X3.out, X4.out, X5.out]; exact hh
                have EG : (hexB x2 && hexB x3 && hexB x4 && hexB x5) = true → N = strAt zs (k + 6) := by
                  intro hh
                  rw [HK.out]
                  refine strAt_u (by rw [HL.out]; exact hk5) (by rw [HZ.out]; exact h92) (by rw [HY.out]; exact h117) ?_
                  rw [X2.out, X3.out, X4.out, X5.out]; exact hh
                subst h92
                subst h117
                clear h34 h32 hesc hesc' n1 n2 n3 n4 n5 n6 n7 n8 HK X2 X3 X4 X5 HY HZ
                cases b2 : hexB x2 with
                | false =>
                  have E : Hid (-1 = N) := EB (by rw [b2]; rfl)
                  clear EB EG
                  go_wp2_with (go_at_call 26; refine (isHex_any _ _).mono ?_; rintro e w' ⟨rfl, rfl⟩)
                  go_ret
                  exact ⟨ret_int E.out, rfl⟩
                | true =>
                  cases b3 : hexB x3 with
                  | false =>
                    have E : Hid (-1 = N) := EB (by rw [b2, b3]; rfl)
                    clear EB EG
                    go_wp2_with (go_at_call 26; refine (isHex_any _ _).mono ?_; rintro e w' ⟨rfl, rfl⟩)
                    go_ret
                    exact ⟨ret_int E.out, rfl⟩
                  | true =>
                    cases b4 : hexB x4 with
                    | false =>
                      have E : Hid (-1 = N) := EB (by rw [b2, b3, b4]; rfl)
                      clear EB EG
                      go_wp2_with (go_at_call 26; refine (isHex_any _ _).mono ?_; rintro e w' ⟨rfl, rfl⟩)
                      go_ret
                      exact ⟨ret_int E.out, rfl⟩
                    | true =>
                      cases b5 : hexB x5 with
                      | false =>
                        have E : Hid (-1 = N) := EB (by rw [b2, b3, b4, b5]; rfl)
                        clear EB EG
                        go_wp2_with (go_at_call 26; refine (isHex_any _ _).mono ?_; rintro e w' ⟨rfl, rfl⟩)
                        go_ret
                        exact ⟨ret_int E.out, rfl⟩
                      | true =>
                        have E : Hid (N = strAt zs (k + 6)) := EG (by rw [b2, b3, b4, b5]; rfl)
                        clear EB EG
                        go_wp2_with (go_at_call 26; refine (isHex_any _ _).mono ?_; rintro e w' ⟨rfl, rfl⟩)
                        go_round
                        case rel => exact ⟨k + 6, by omega, by go_num, E⟩
                        case measure => simp [intOf]; omega
              · have E : Hid (-1 = N) := by
                  show -1 = N
                  rw [HK.out]; exact (strAt_u_short (by rw [HL.out]; exact hk1) (by rw [HL.out]; omega) (by rw [HZ.out]; exact h92) (by rw [HY.out]; exact h117)).symm
                subst h92
                subst h117
                clear h34 h32 hesc hesc' n1 n2 n3 n4 n5 n6 n7 n8 HK HY HZ
                go_wp2
                go_ret
                exact ⟨ret_int E.out, rfl⟩
            · have E : Hid (-1 = N) := by
                show -1 = N
                rw [HK.out]; exact (strAt_bad (by rw [HL.out]; exact hk1) (by rw [HZ.out]; exact h92) (by rw [HY.out]; exact hesc') (by rw [HY.out]; exact h117)).symm
              have h117' := ne_bool h117
              subst h92
              clear h34 h32 hesc hesc' h117 HK HY HZ
              go_wp2
              go_ret
              exact ⟨ret_int E.out, rfl⟩
        · have hk1' : ((k : Int) + 1 == (n : Int)) = true := by simp; omega
          have E : Hid (-1 = N) := by
            show -1 = N
            rw [HK.out]; exact (strAt_bs_end (by rw [HL.out]; omega) (by rw [HZ.out]; exact h92)).symm
          subst h92
          clear h34 h32
          go_wp2
          go_ret
          exact ⟨ret_int E.out, rfl⟩
      · have E : Hid (N = strAt zs (k + 1)) := by
          show N = strAt zs (k + 1)
          rw [HK.out]; exact strAt_plain (by rw [HL.out]; exact hkn) (by rw [HZ.out]; exact h34) (by rw [HZ.out]; exact h32) (by rw [HZ.out]; exact h92)
        have h34' := ne_bool h34
        have h92' := ne_bool h92
        clear h34 h92 HK
        go_wp2
        go_round
        case rel => exact ⟨k + 1, by omega, by go_num, E⟩
        case measure => simp [intOf]; omega
    · have E : Hid (-1 = N) := by
        show -1 = N
        rw [HK.out]; exact (strAt_end (by rw [HL.out]; omega)).symm
      go_wp2
      go_ret
      exact ⟨ret_int E.out, rfl⟩

/-- A text without a byte (the nil slice too). -/
theorem skipString_empty (a : Option Addr) (c i : Nat) (w : World) (hi : i ≤ 4194304) :
    Calls Try.prog 22 #[.slice a 0 c, .int .i64 i] w fun e w' => e = .returned (.int .i64 (-1)) ∧ w' = w := by
  go_enter Try.func22, Try.ntmps22
  go_wp2
  refine wp_loop_rounds 1 ?_
  rw [rounds_succ]
  go_wp2
  go_ret
  exact ⟨rfl, rfl⟩

theorem ZZskipString_any (b off n c : Nat) (zs : List Int) (i : Nat) (w : World) (hn : n ≤ 4194304) (hi : i ≤ n) (hr : Row w b off n zs) :
    Calls Try.prog 13 #[.slice (some ⟨b, off, none⟩) n c, .int .i64 i] w fun e w' => e = .returned (.int .i64 (strAt zs (i + 1))) ∧ w' = w := by
  go_enter Try.func13, Try.ntmps13
  go_wp2_with (go_at_call 22; refine (skipString_any b off n c zs i _ hn hi hr).mono ?_; rintro e w' ⟨rfl, rfl⟩)
  go_ret
  exact ⟨rfl, rfl⟩
theorem ZZskipString_empty (a : Option Addr) (c i : Nat) (w : World) (hi : i ≤ 4194304) :
    Calls Try.prog 13 #[.slice a 0 c, .int .i64 i] w fun e w' => e = .returned (.int .i64 (-1)) ∧ w' = w := by
  go_enter Try.func13, Try.ntmps13
  go_wp2_with (go_at_call 22; refine (skipString_empty a c i _ hi).mono ?_; rintro e w' ⟨rfl, rfl⟩)
  go_ret
  exact ⟨rfl, rfl⟩
end Go.Proofs.Qxb6619262a
