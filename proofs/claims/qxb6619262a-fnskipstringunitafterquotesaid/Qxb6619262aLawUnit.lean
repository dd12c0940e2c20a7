/-
  THE WALK of FnSkipStringUnitAfterQuote.
-/
import Derived.Test.Qxb6619262aWalkStr
import Derived.Test.Qxb6619262aFill
import Derived.Deep.DeepCutAuto
namespace Go.Proofs.Qxb6619262a
open Go.ChangeShapes Go.WideShapes Go.ChangeAt Go.RowKit
open Plain
set_option linter.unusedVariables false

def unitOf (b : Int) : Nat := if b = 92 then 2 else 1
def mix (Z : List Int) (i u : Nat) (b : Int) : List Int := Z.take (i + 1) ++ (List.replicate u b ++ Z.drop (i + 1))

theorem mix_length {Z : List Int} {i u : Nat} {b : Int} (h : i < Z.length) : (mix Z i u b).length = Z.length + u := by
  simp [mix]; omega
theorem mix_low {Z : List Int} {i u : Nat} {b : Int} {j : Nat} (h : i < Z.length) (hj : j ≤ i) : (mix Z i u b).getD j 0 = Z.getD j 0 := by
  unfold mix
  rw [List.getD_eq_getElem?_getD, List.getD_eq_getElem?_getD, List.getElem?_append_left (by simp; omega), List.getElem?_take, if_pos (by omega)]
theorem mix_mid {Z : List Int} {i u : Nat} {b : Int} {j : Nat} (h : i < Z.length) (hj : j < u) : (mix Z i u b).getD (i + 1 + j) 0 = b := by
  unfold mix
  rw [List.getD_eq_getElem?_getD, List.getElem?_append_right (by simp; omega), List.length_take, List.getElem?_append_left (by simp; omega), List.getElem?_replicate, if_pos (by omega)]
  rfl
theorem mix_high {Z : List Int} {i u : Nat} {b : Int} {j : Nat} (h : i < Z.length) (hj : i + 1 ≤ j) : (mix Z i u b).getD (j + u) 0 = Z.getD j 0 := by
  unfold mix
  rw [List.getD_eq_getElem?_getD, List.getD_eq_getElem?_getD, List.getElem?_append_right (by simp; omega), List.length_take, List.getElem?_append_right (by simp; omega), List.length_replicate, List.getElem?_drop]
  congr 2
  omega
theorem mix_drop {Z : List Int} {i u : Nat} {b : Int} (h : i < Z.length) : (mix Z i u b).drop (i + 1) = List.replicate u b ++ Z.drop (i + 1) := by
  unfold mix
  rw [List.drop_append, List.drop_eq_nil_of_le (by simp; omega), List.length_take, show i + 1 - min (i + 1) Z.length = 0 from by omega]
  simp

theorem mix_ctl {Z : List Int} {i : Nat} {b : Int} (h : i < Z.length) (hb : b < 32) : strAt (mix Z i (unitOf b) b) (i + 1) = -1 := by
  unfold strAt
  rw [mix_drop h, show unitOf b = 1 from if_neg (by omega)]
  rw [show List.replicate 1 b ++ Z.drop (i + 1) = b :: Z.drop (i + 1) from rfl, str_cons, if_neg (by omega), if_pos hb]
theorem mix_quote {Z : List Int} {i : Nat} (h : i < Z.length) : strAt (mix Z i (unitOf 34) 34) (i + 1) = (i : Int) + 2 := by
  unfold strAt
  rw [mix_drop h, show unitOf 34 = 1 from if_neg (by omega)]
  rw [show List.replicate 1 (34 : Int) ++ Z.drop (i + 1) = 34 :: Z.drop (i + 1) from rfl, str_cons, if_pos rfl]
  simp only
  omega
theorem mix_unit {Z : List Int} {i : Nat} {b : Int} (h : i < Z.length) (hb : ¬ b < 32) (h34 : b ≠ 34) :
    (strAt Z (i + 1) = -1 ∧ strAt (mix Z i (unitOf b) b) (i + 1) = -1) ∨ ∃ r : Nat, r ≤ Z.length ∧ strAt Z (i + 1) = (r : Int) ∧ strAt (mix Z i (unitOf b) b) (i + 1) = (r : Int) + (unitOf b : Int) := by
  have key : str (List.replicate (unitOf b) b ++ Z.drop (i + 1)) = (str (Z.drop (i + 1))).map (· + unitOf b) := by
    by_cases h92 : b = 92
    · subst h92
      rw [show unitOf 92 = 2 from rfl, show List.replicate 2 (92 : Int) ++ Z.drop (i + 1) = 92 :: 92 :: Z.drop (i + 1) from rfl, str_cons, if_neg (by omega), if_neg (by omega), if_neg (by omega)]
      rfl
    · rw [show unitOf b = 1 from if_neg h92, show List.replicate 1 b ++ Z.drop (i + 1) = b :: Z.drop (i + 1) from rfl, str_cons, if_neg h34, if_neg hb, if_pos h92]
  unfold strAt
  rw [mix_drop h, key]
  cases hs : str (Z.drop (i + 1)) with
  | none => exact .inl ⟨rfl, rfl⟩
  | some m =>
    have h1 := (str_some hs).2.1
    rw [List.length_drop] at h1
    refine .inr ⟨i + 1 + m, by omega, by simp, ?_⟩
    simp only [Option.map_some]
    omega

theorem make_plus (n u : Nat) (h : n + u ≤ 4194304) (w : World) : (Instr.makeSlice 22 (.int .i64 ((n : Int) + (u : Int))) (.int .i64 ((n : Int) + (u : Int)))).run Try.prog w = .ok (.slice (some ⟨w.heap.size, 0, none⟩) (n + u) (n + u)) (w.alloc (.cells (madeCells #[.int .u8 0] (n + u)) 5)) := by
  have := run_make_row' (P := Try.prog) 22 5 (.int .u8 0) 1 Try.underlying22 Try.info5 rfl .i64 .i64 (n + u) (by omega) (by omega) w
  rw [show ((n + u : Nat) : Int) = (n : Int) + (u : Int) from by omega] at this
  exact this

set_option maxRecDepth 100000 in
set_option maxHeartbeats 2000000 in
theorem law6_main (x : Addr) (n cap : Nat) (Z : List Int) (i : Nat) (b : Int) (w : World) (hZ : Z.length = n) (hx : ∀ k, k < n → w.cell? (x.add k) = some (.int .u8 (Z.getD k 0))) (hn : n ≤ 1048576) (hi : i < n) :
    Calls Try.prog 6 #[.slice (some x) n cap, .int .i64 i, .int .u8 b] w fun e w' => e = .returned (.bool true) ∧ Below w.heap.size w w' := by
  have q22 : ∀ (w : World) (a : Option Addr) (n c n' c' : Nat), (binOp .neq 22 (.slice a n c) (.slice none n' c')).run Try.prog w = .ok (.bool (!a.isNone)) w := fun w a n c n' c' => run_neq_slice_nil_any w _ _ a n c n' c' Try.underlying22
  have HZ : Hid (Z.length = n) := hZ
  have HX : Hid (∀ k, k < n → w.cell? (x.add k) = some (.int .u8 (Z.getD k 0))) := hx
  clear hZ hx
  have hmk := run_make_row' (P := Try.prog) 22 5 (.int .u8 0) 1 Try.underlying22 Try.info5 rfl .i64 .i64 n (by omega) (by omega)
  go_enter Try.func6, Try.ntmps6
  go_upto_region 9 with (go_at_call 15; go_in)
  go_upto_if 41 with (refine copy_fresh rfl (.tmp 36) (.tmp 37) rfl x n cap rfl rfl Z HZ HX ?_; intro w2 hr hB hsz; clear HX hmk q22)
  go_cut [8] from 40 to 41 (fun t w' => w' = w2 ∧ ∃ u : Nat, t = .int .i64 (u : Int) ∧ Hid (u = unitOf b) ∧ 1 ≤ u ∧ u ≤ 2)
  case first =>
    by_cases h92 : b = 92
    · have E : Hid (2 = unitOf b) := by
        show 2 = unitOf b
        rw [h92]; rfl
      subst h92
      go_wp2
      go_meet
      case rel => exact ⟨rfl, 2, rfl, E, by omega, by omega⟩
    · have E : Hid (1 = unitOf b) := by
        show 1 = unitOf b
        unfold unitOf; rw [if_neg h92]
      have h92' := ne_bool h92
      clear h92
      go_wp2
      go_meet
      case rel => exact ⟨rfl, 1, rfl, E, by omega, by omega⟩
  case rest =>
    obtain ⟨rfl, u, rfl, HU, hu1, hu2⟩ := hcut
    have hmk := make_plus n u (by omega)
    obtain ⟨T, hT⟩ : ∃ T, T = mix Z i u b := ⟨_, rfl⟩
    have HT : Hid (T = mix Z i u b) := hT
    clear hT
    have hTl : T.length = n + u := by rw [HT.out, mix_length (by rw [HZ.out]; exact hi), HZ.out]
    have HTl : Hid (T.length = n + u) := hTl
    have F0 := filled_start wc T (n + u) hTl
    have hB2 : Below wc.heap.size wc (wc.alloc (.cells (madeCells #[.int .u8 0] (n + u)) 5)) := (Below.refl _ _).alloc (Nat.le_refl _) _
    clear hTl
    go_wp2
    go_loopw [10] (fun t wr => ∃ k : Nat, k ≤ i + 1 ∧ t = .int .i64 (k : Int) ∧ Filled wr wc.heap.size T k ∧ Below wc.heap.size wc wr) (fun t _ => i + 1 - (intOf t).toNat)
    case atStart => exact ⟨0, Nat.zero_le _, rfl, F0, hB2⟩
    case round =>
      clear F0 hB2 hmk
      obtain ⟨k, hk, rfl, hF, hBr⟩ := hrel
      by_cases hki : k ≤ i
      · obtain ⟨z, hz1, HZk⟩ := (hr.below hBr hsz).byteAt (k := k) (by omega)
        rw [Nat.zero_add] at hz1
        obtain ⟨⟨z', hz2⟩, hz3⟩ := hF.cell (j := k) (by rw [HTl.out]; omega)
        have hF' := hF.store (by rw [HTl.out]; omega) (show T.getD k 0 = z by rw [HT.out, mix_low (by rw [HZ.out]; exact hi) hki, HZk.out])
        have hBr' := hBr.setCell (p := ⟨wc.heap.size, k, none⟩) (Nat.le_refl _) (.int .u8 z)
        have hkn : k < n := by omega
        clear HZk
        go_wp2
        go_roundw
        case rel => exact ⟨k + 1, by omega, by go_num, hF', hBr'⟩
        case measure => simp [intOf]; omega
      · obtain rfl : k = i + 1 := by omega
        clear hki hk
        obtain ⟨w3, rfl⟩ : ∃ w3 : World, w3 = wr := ⟨_, rfl⟩
        go_wp2
        go_loopw [11] (fun t wr => ∃ k : Nat, k ≤ u ∧ t = .int .i64 (k : Int) ∧ Filled wr wc.heap.size T (i + 1 + k) ∧ Below wc.heap.size wc wr) (fun t _ => u - (intOf t).toNat)
        case atStart => exact ⟨0, Nat.zero_le _, rfl, hF, hBr⟩
        case round =>
          clear hF hBr
          obtain ⟨k, hk, rfl, hF, hBr⟩ := hrel
          by_cases hku : k < u
          · obtain ⟨⟨z', hz2⟩, hz3⟩ := hF.cell (j := i + 1 + k) (by rw [HTl.out]; omega)
            have hF' := hF.store (by rw [HTl.out]; omega) (show T.getD (i + 1 + k) 0 = b by rw [HT.out, mix_mid (by rw [HZ.out]; exact hi) hku])
            have hBr' := hBr.setCell (p := ⟨wc.heap.size, i + 1 + k, none⟩) (Nat.le_refl _) (.int .u8 b)
            go_wp2
            go_roundw
            case rel => exact ⟨k + 1, by omega, by go_num, hF', hBr'⟩
            case measure => simp [intOf]; omega
          · obtain rfl : k = u := by omega
            clear hku hk
            obtain ⟨w4, rfl⟩ : ∃ w4 : World, w4 = wr := ⟨_, rfl⟩
            go_wp2
            go_loopw [12] (fun t wr => ∃ j : Nat, i + 1 ≤ j ∧ j ≤ n ∧ t = .int .i64 (j : Int) ∧ Filled wr wc.heap.size T (j + k) ∧ Below wc.heap.size wc wr) (fun t _ => n - (intOf t).toNat)
            case atStart => exact ⟨i + 1, Nat.le_refl _, by omega, by go_num, hF, hBr⟩
            case round =>
              clear hF hBr
              obtain ⟨j, hij, hjn, rfl, hF, hBr⟩ := hrel
              by_cases hjn' : j < n
              · obtain ⟨z, hz1, HZk⟩ := (hr.below hBr hsz).byteAt (k := j) (by omega)
                rw [Nat.zero_add] at hz1
                obtain ⟨⟨z', hz2⟩, hz3⟩ := hF.cell (j := j + k) (by rw [HTl.out]; omega)
                have hF' := hF.store (by rw [HTl.out]; omega) (show T.getD (j + k) 0 = z by rw [HT.out, mix_high (by rw [HZ.out]; exact hi) hij, HZk.out])
                have hBr' := hBr.setCell (p := ⟨wc.heap.size, j + k, none⟩) (Nat.le_refl _) (.int .u8 z)
                clear HZk
                go_wp2
                go_roundw
                case rel => exact ⟨j + 1, by omega, by omega, by go_num, by rw [show j + 1 + k = j + k + 1 from by omega]; exact hF', hBr'⟩
                case measure => simp [intOf]; omega
              · obtain rfl : j = n := by omega
                clear hjn' hjn hij
                have hRT := hF.whole (n := j + k) (by rw [HTl.out]; omega) HTl.out
                have hRZ := hr.below hBr hsz
                have hEnd : Below w.heap.size w wr := hB.trans (hBr.mono (by omega))
                clear hF hBr hr hB
                have hiZ : i < Z.length := by rw [HZ.out]; exact hi
                have hTu : T = mix Z i (unitOf b) b := by rw [HT.out, HU.out]
                by_cases hb : b < 32
                · have A2 : Hid (strAt T (i + 1) = -1) := by
                    show strAt T (i + 1) = -1
                    rw [hTu]; exact mix_ctl hiZ hb
                  clear hTu HT HU hiZ
                  go_wp2_with fail
                  refine (ZZskipString_any _ _ _ _ Z i _ (by omega) (by omega) hRZ).mono ?_
                  rintro e w' ⟨rfl, rfl⟩
                  generalize strAt Z (i + 1) = R
                  go_wp2_with fail
                  refine (ZZskipString_any _ _ _ _ T i _ (by omega) (by omega) hRT).mono ?_
                  rintro e w' ⟨rfl, rfl⟩
                  rw [A2.out]
                  go_wp2
                  go_ret
                  exact ⟨rfl, hEnd⟩
                by_cases h34 : b = 34
                · have A2 : Hid (strAt T (i + 1) = (i : Int) + 2) := by
                    show strAt T (i + 1) = (i : Int) + 2
                    rw [hTu, h34]; exact mix_quote hiZ
                  subst h34
                  clear hTu HT HU hiZ hb
                  go_wp2_with fail
                  refine (ZZskipString_any _ _ _ _ Z i _ (by omega) (by omega) hRZ).mono ?_
                  rintro e w' ⟨rfl, rfl⟩
                  generalize strAt Z (i + 1) = R
                  go_wp2_with fail
                  refine (ZZskipString_any _ _ _ _ T i _ (by omega) (by omega) hRT).mono ?_
                  rintro e w' ⟨rfl, rfl⟩
                  rw [A2.out]
                  go_wp2
                  go_ret
                  exact ⟨rfl, hEnd⟩
                have h34' := ne_bool h34
                rcases mix_unit hiZ hb h34 with ⟨a1, a2⟩ | ⟨r, r0, a1, a2⟩
                · rw [← hTu] at a2
                  have A1 : Hid (strAt Z (i + 1) = -1) := a1
                  have A2 : Hid (strAt T (i + 1) = -1) := a2
                  clear hTu HT HU hiZ h34 a1 a2
                  go_wp2_with fail
                  refine (ZZskipString_any _ _ _ _ Z i _ (by omega) (by omega) hRZ).mono ?_
                  rintro e w' ⟨rfl, rfl⟩
                  rw [A1.out]
                  go_wp2_with fail
                  refine (ZZskipString_any _ _ _ _ T i _ (by omega) (by omega) hRT).mono ?_
                  rintro e w' ⟨rfl, rfl⟩
                  rw [A2.out]
                  go_wp2
                  go_ret
                  exact ⟨rfl, hEnd⟩
                · rw [← hTu, ← HU.out] at a2
                  rw [HZ.out] at r0
                  have A1 : Hid (strAt Z (i + 1) = (r : Int)) := a1
                  have A2 : Hid (strAt T (i + 1) = (r : Int) + (k : Int)) := a2
                  clear hTu HT HU hiZ h34 a1 a2
                  go_wp2_with fail
                  refine (ZZskipString_any _ _ _ _ Z i _ (by omega) (by omega) hRZ).mono ?_
                  rintro e w' ⟨rfl, rfl⟩
                  rw [A1.out]
                  go_wp2_with fail
                  refine (ZZskipString_any _ _ _ _ T i _ (by omega) (by omega) hRT).mono ?_
                  rintro e w' ⟨rfl, rfl⟩
                  rw [A2.out]
                  go_wp2
                  go_ret
                  exact ⟨rfl, hEnd⟩

theorem law6_out (a : Option Addr) (n cap : Nat) (i b : Int) (w : World) (h : 1048576 < n ∨ i < 0 ∨ (n : Int) ≤ i) :
    Calls Try.prog 6 #[.slice a n cap, .int .i64 i, .int .u8 b] w fun e w' => e = .returned (.bool true) ∧ Below w.heap.size w w' := by
  by_cases hn : 1048576 < n
  · clear h
    go_enter Try.func6, Try.ntmps6
    go_wp2
    go_ret
    exact ⟨rfl, Below.refl _ _⟩
  · have hn' : n ≤ 1048576 := by omega
    by_cases hi : i < 0
    · clear h
      go_enter Try.func6, Try.ntmps6
      go_wp2
      go_ret
      exact ⟨rfl, Below.refl _ _⟩
    · have hi0 : 0 ≤ i := by omega
      have hi1 : (n : Int) ≤ i := by omega
      clear h
      go_enter Try.func6, Try.ntmps6
      go_wp2
      go_ret
      exact ⟨rfl, Below.refl _ _⟩
end Go.Proofs.Qxb6619262a
