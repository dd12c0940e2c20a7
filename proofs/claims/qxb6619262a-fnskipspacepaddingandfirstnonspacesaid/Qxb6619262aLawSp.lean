/-
  THE WALK of FnSkipSpacePaddingAndFirstNonSpace.
-/
import Derived.Test.Qxb6619262aWalkSp
import Derived.Test.Qxb6619262aFill
import Derived.Deep.DeepCutAuto
namespace Go.Proofs.Qxb6619262a
open Go.ChangeShapes Go.WideShapes Go.ChangeAt Go.RowKit
open Plain
set_option linter.unusedVariables false

def pads (m : Nat) : List Int := (List.range m).map spByte
def padded (Z : List Int) (i m : Nat) : List Int := Z.take i ++ (pads m ++ Z.drop i)

theorem padded_length {Z : List Int} {i m : Nat} (h : i ≤ Z.length) : (padded Z i m).length = Z.length + m := by
  simp [padded, pads]; omega
theorem padded_low {Z : List Int} {i m j : Nat} (h : i ≤ Z.length) (hj : j < i) : (padded Z i m).getD j 0 = Z.getD j 0 := by
  unfold padded
  rw [List.getD_eq_getElem?_getD, List.getD_eq_getElem?_getD, List.getElem?_append_left (by simp; omega), List.getElem?_take, if_pos (by omega)]
theorem padded_mid {Z : List Int} {i m j : Nat} (h : i ≤ Z.length) (hj : j < m) : (padded Z i m).getD (i + j) 0 = spByte j := by
  unfold padded
  rw [List.getD_eq_getElem?_getD, List.getElem?_append_right (by simp; omega), List.length_take, List.getElem?_append_left (by simp [pads]; omega)]
  rw [show i + j - min i Z.length = j from by omega]
  simp [pads, List.getElem?_map, List.getElem?_range hj]
theorem padded_high {Z : List Int} {i m j : Nat} (h : i ≤ Z.length) (hj : i ≤ j) : (padded Z i m).getD (j + m) 0 = Z.getD j 0 := by
  unfold padded
  have hp : (pads m).length = m := by simp [pads]
  rw [List.getD_eq_getElem?_getD, List.getD_eq_getElem?_getD, List.getElem?_append_right (by simp; omega), List.length_take, List.getElem?_append_right (by rw [hp]; omega), hp, List.getElem?_drop]
  congr 2
  omega
theorem padded_spAt {Z : List Int} {i m : Nat} (h : i ≤ Z.length) : spAt (padded Z i m) i = spAt Z i + (m : Int) := by
  unfold spAt padded
  rw [List.drop_append, List.drop_eq_nil_of_le (by rw [List.length_take]; omega), List.length_take, show i - min i Z.length = 0 from by omega, List.drop_zero, List.nil_append]
  rw [sps_pad _ _ (by intro c hc; simp only [pads, List.mem_map] at hc; obtain ⟨k, _, rfl⟩ := hc; exact spB_spByte k)]
  have hp : (pads m).length = m := by simp [pads]
  rw [hp]; omega

theorem make_plus8 (n u : Nat) (h : n + u ≤ 4194304) (w : World) : (Instr.makeSlice 22 (.int .i64 ((n : Int) + (u : Int))) (.int .i64 ((n : Int) + (u : Int)))).run Try.prog w = .ok (.slice (some ⟨w.heap.size, 0, none⟩) (n + u) (n + u)) (w.alloc (.cells (madeCells #[.int .u8 0] (n + u)) 5)) := by
  have := run_make_row' (P := Try.prog) 22 5 (.int .u8 0) 1 Try.underlying22 Try.info5 rfl .i64 .i64 (n + u) (by omega) (by omega) w
  rw [show ((n + u : Nat) : Int) = (n : Int) + (u : Int) from by omega] at this
  exact this

set_option maxRecDepth 100000 in
set_option maxHeartbeats 2000000 in
theorem law8_main (x : Addr) (n cap : Nat) (Z : List Int) (i m : Nat) (w : World) (hZ : Z.length = n) (hx : ∀ k, k < n → w.cell? (x.add k) = some (.int .u8 (Z.getD k 0))) (hn : n ≤ 1048576) (hi : i ≤ n) (hm : m ≤ 65536) :
    Calls Try.prog 8 #[.slice (some x) n cap, .int .i64 i, .int .i64 m] w fun e w' => e = .returned (.bool true) ∧ Below w.heap.size w w' := by
  have q22 : ∀ (w : World) (a : Option Addr) (n c n' c' : Nat), (binOp .neq 22 (.slice a n c) (.slice none n' c')).run Try.prog w = .ok (.bool (!a.isNone)) w := fun w a n c n' c' => run_neq_slice_nil_any w _ _ a n c n' c' Try.underlying22
  have HZ : Hid (Z.length = n) := hZ
  have HX : Hid (∀ k, k < n → w.cell? (x.add k) = some (.int .u8 (Z.getD k 0))) := hx
  clear hZ hx
  have hmk := run_make_row' (P := Try.prog) 22 5 (.int .u8 0) 1 Try.underlying22 Try.info5 rfl .i64 .i64 n (by omega) (by omega)
  go_enter Try.func8, Try.ntmps8
  go_upto_region 11 with (go_at_call 17; go_in)
  go_wp2_with (refine copy_fresh rfl (.tmp 35) (.tmp 36) rfl x n cap rfl rfl Z HZ HX ?_; intro w2 hr hB hsz; clear HX hmk q22)
  obtain ⟨r, hrr⟩ : ∃ r : Nat, r = i + sps (Z.drop i) := ⟨_, rfl⟩
  have HRR : Hid (r = i + sps (Z.drop i)) := hrr
  have A1 : Hid (spAt Z i = (r : Int)) := by
    show spAt Z i = (r : Int)
    unfold spAt; omega
  have hrn : r ≤ n := by
    have := sps_le (Z.drop i)
    rw [List.length_drop, HZ.out] at this
    omega
  have hir : i ≤ r := by omega
  clear hrr
  refine (ZZskipSpace_any _ _ _ _ Z i _ (by omega) (by omega) hr).mono ?_
  rintro e w' ⟨rfl, rfl⟩
  rw [A1.out]
  go_upto_region 18 with fail
  go_cut [9] from 14 to 58 (fun t wx => wx = w' ∧ t = .int .i64 (i : Int))
  case first =>
    go_wp2
    go_meet
    case rel => exact ⟨rfl, rfl⟩
  case rest =>
    obtain ⟨rfl, rfl⟩ := hcut
    go_wp2
    go_loop [9] (fun t => ∃ k : Nat, i ≤ k ∧ k ≤ r ∧ t = .int .i64 (k : Int)) (fun t => r - (intOf t).toNat)
    case atStart => exact ⟨i, Nat.le_refl _, hir, rfl⟩
    case round =>
      obtain ⟨k, hik, hkr, rfl⟩ := hrel
      by_cases hlt : k < r
      · have hb := sps_lt (l := Z.drop i) (k := k - i) (by have := HRR.out; omega)
        rw [getD_drop, show i + (k - i) = k from by omega] at hb
        obtain ⟨z, hz1, HZk⟩ := hr.byteAt (k := k) (by omega)
        rw [HZk.out] at hb
        have hkn : k < n := by omega
        rw [Nat.zero_add] at hz1
        have HB : Hid (spB z = true) := hb
        clear HZk hb
        go_wp2_with (go_at_call 19; refine (isSpace_yes z _ HB.out).mono ?_; rintro e w5 ⟨rfl, hw5⟩; replace hw5 := hw5.symm; subst hw5)
        go_round
        case rel => exact ⟨k + 1, by omega, by omega, by go_num⟩
        case measure => simp [intOf]; omega
      · obtain rfl : k = r := by omega
        clear hlt hkr hik
        have HK : Hid (k < n → spB (Z.getD k 0) = false) := by
          intro hkn
          have hs := sps_stop (l := Z.drop i) (by rw [List.length_drop, HZ.out]; have := HRR.out; omega)
          rw [getD_drop, ← HRR.out] at hs
          exact hs
        go_upto_region 23 with fail
        go_cut [80] from 59 to 85 (fun t wx => wx = wc ∧ t = .bool false)
        case first =>
          by_cases hkn : k < n
          · obtain ⟨z, hz1, HZk⟩ := hr.byteAt (k := k) (by omega)
            have hb := HK.out hkn
            rw [HZk.out] at hb
            rw [Nat.zero_add] at hz1
            have HB : Hid (spB z = false) := hb
            clear HZk hb
            go_wp2_with (go_at_call 19; refine (isSpace_no z _ HB.out).mono ?_; rintro e w5 ⟨rfl, hw5⟩; replace hw5 := hw5.symm; subst hw5)
            go_meet
            case rel => exact ⟨rfl, rfl⟩
          · go_wp2
            go_meet
            case rel => exact ⟨rfl, rfl⟩
        case rest =>
          obtain ⟨rfl, rfl⟩ := hcut
          clear HK
          have hmk := make_plus8 n m (by omega)
          obtain ⟨T, hT⟩ : ∃ T, T = padded Z i m := ⟨_, rfl⟩
          have HT : Hid (T = padded Z i m) := hT
          clear hT
          have hiZ : i ≤ Z.length := by rw [HZ.out]; exact hi
          have HiZ : Hid (i ≤ Z.length) := hiZ
          have hTl : T.length = n + m := by rw [HT.out, padded_length hiZ, HZ.out]
          have HTl : Hid (T.length = n + m) := hTl
          have F0 := filled_start wc T (n + m) hTl
          have hB2 : Below wc.heap.size wc (wc.alloc (.cells (madeCells #[.int .u8 0] (n + m)) 5)) := (Below.refl _ _).alloc (Nat.le_refl _) _
          clear hTl hiZ
          go_wp2
          go_loopw [11] (fun t wr => ∃ q : Nat, q ≤ i ∧ t = .int .i64 (q : Int) ∧ Filled wr wc.heap.size T q ∧ Below wc.heap.size wc wr) (fun t _ => i - (intOf t).toNat)
          case atStart => exact ⟨0, Nat.zero_le _, rfl, F0, hB2⟩
          case round =>
            clear F0 hB2 hmk
            obtain ⟨q, hqi, rfl, hF, hBr⟩ := hrel
            by_cases hq : q < i
            · obtain ⟨z, hz1, HZk⟩ := (hr.below hBr hsz).byteAt (k := q) (by omega)
              rw [Nat.zero_add] at hz1
              obtain ⟨⟨z', hz2⟩, hz3⟩ := hF.cell (j := q) (by rw [HTl.out]; omega)
              have hF' := hF.store (by rw [HTl.out]; omega) (show T.getD q 0 = z by rw [HT.out, padded_low HiZ.out hq, HZk.out])
              have hBr' := hBr.setCell (p := ⟨wc.heap.size, q, none⟩) (Nat.le_refl _) (.int .u8 z)
              clear HZk
              go_wp2
              go_roundw
              case rel => exact ⟨q + 1, by omega, by go_num, hF', hBr'⟩
              case measure => simp [intOf]; omega
            · obtain rfl : q = i := by omega
              clear hq hqi
              obtain ⟨w3, rfl⟩ : ∃ w3 : World, w3 = wr := ⟨_, rfl⟩
              go_wp2
              go_loopw [12] (fun t wr => ∃ j : Nat, j ≤ m ∧ t = .int .i64 (j : Int) ∧ Filled wr wc.heap.size T (q + j) ∧ Below wc.heap.size wc wr) (fun t _ => m - (intOf t).toNat)
              case atStart => exact ⟨0, Nat.zero_le _, rfl, hF, hBr⟩
              case round =>
                clear hF hBr
                obtain ⟨j, hjm, rfl, hF, hBr⟩ := hrel
                by_cases hj : j < m
                · obtain ⟨⟨z', hz2⟩, hz3⟩ := hF.cell (j := q + j) (by rw [HTl.out]; omega)
                  have hF' := hF.store (by rw [HTl.out]; omega) (show T.getD (q + j) 0 = spByte j by rw [HT.out, padded_mid HiZ.out hj])
                  have hBr' := hBr.setCell (p := ⟨wc.heap.size, q + j, none⟩) (Nat.le_refl _) (.int .u8 (spByte j))
                  have C := spaceByte_any j wr (by omega)
                  generalize spByte j = v at hF' hBr' C
                  have HC : Hid (Calls Try.prog 20 #[.int .i64 (j : Int)] wr fun e w' => e = .returned (.int .u8 v) ∧ w' = wr) := C
                  clear C
                  go_wp2_with (go_at_call 20; refine HC.out.mono ?_; rintro e w5 ⟨rfl, hw5⟩; replace hw5 := hw5.symm; subst hw5)
                  go_roundw
                  case rel => exact ⟨j + 1, by omega, by go_num, hF', hBr'⟩
                  case measure => simp [intOf]; omega
                · obtain rfl : j = m := by omega
                  clear hj hjm
                  obtain ⟨w4, rfl⟩ : ∃ w4 : World, w4 = wr := ⟨_, rfl⟩
                  go_wp2
                  go_loopw [13] (fun t wr => ∃ p : Nat, q ≤ p ∧ p ≤ n ∧ t = .int .i64 (p : Int) ∧ Filled wr wc.heap.size T (p + j) ∧ Below wc.heap.size wc wr) (fun t _ => n - (intOf t).toNat)
                  case atStart => exact ⟨q, Nat.le_refl _, hi, rfl, hF, hBr⟩
                  case round =>
                    clear hF hBr
                    obtain ⟨p, hqp, hpn, rfl, hF, hBr⟩ := hrel
                    by_cases hp : p < n
                    · obtain ⟨z, hz1, HZk⟩ := (hr.below hBr hsz).byteAt (k := p) (by omega)
                      rw [Nat.zero_add] at hz1
                      obtain ⟨⟨z', hz2⟩, hz3⟩ := hF.cell (j := p + j) (by rw [HTl.out]; omega)
                      have hF' := hF.store (by rw [HTl.out]; omega) (show T.getD (p + j) 0 = z by rw [HT.out, padded_high HiZ.out hqp, HZk.out])
                      have hBr' := hBr.setCell (p := ⟨wc.heap.size, p + j, none⟩) (Nat.le_refl _) (.int .u8 z)
                      clear HZk
                      go_wp2
                      go_roundw
                      case rel => exact ⟨p + 1, by omega, by omega, by go_num, by rw [show p + 1 + j = p + j + 1 from by omega]; exact hF', hBr'⟩
                      case measure => simp [intOf]; omega
                    · obtain rfl : p = n := by omega
                      clear hp hpn hqp
                      have hRT := hF.whole (n := p + j) (by rw [HTl.out]; omega) HTl.out
                      have hEnd : Below w.heap.size w wr := hB.trans (hBr.mono (by omega))
                      have A2 : Hid (spAt T q = (k : Int) + (j : Int)) := by
                        show spAt T q = (k : Int) + (j : Int)
                        rw [HT.out, padded_spAt HiZ.out, A1.out]
                      clear hF hBr HT
                      go_wp2_with fail
                      refine (ZZskipSpace_any _ _ _ _ T q _ (by omega) (by omega) hRT).mono ?_
                      rintro e w5 ⟨rfl, rfl⟩
                      rw [A2.out]
                      go_wp2
                      go_ret
                      exact ⟨rfl, hEnd⟩

theorem law8_out (a : Option Addr) (n cap : Nat) (i m : Int) (w : World) (h : 1048576 < n ∨ i < 0 ∨ m < 0 ∨ 65536 < m) :
    Calls Try.prog 8 #[.slice a n cap, .int .i64 i, .int .i64 m] w fun e w' => e = .returned (.bool true) ∧ Below w.heap.size w w' := by
  by_cases hn : 1048576 < n
  · clear h
    go_enter Try.func8, Try.ntmps8
    go_wp2
    go_ret
    exact ⟨rfl, Below.refl _ _⟩
  · have hn' : n ≤ 1048576 := by omega
    by_cases hi : i < 0
    · clear h
      go_enter Try.func8, Try.ntmps8
      go_wp2
      go_ret
      exact ⟨rfl, Below.refl _ _⟩
    · have hi0 : 0 ≤ i := by omega
      by_cases hm : m < 0
      · clear h
        go_enter Try.func8, Try.ntmps8
        go_wp2
        go_ret
        exact ⟨rfl, Below.refl _ _⟩
      · have hm0 : 0 ≤ m := by omega
        have hm1 : 65536 < m := by omega
        clear h
        go_enter Try.func8, Try.ntmps8
        go_wp2
        go_ret
        exact ⟨rfl, Below.refl _ _⟩

set_option maxRecDepth 100000 in
set_option maxHeartbeats 1000000 in
theorem law8_past (x : Addr) (n cap : Nat) (Z : List Int) (i m : Int) (w : World) (hZ : Z.length = n) (hx : ∀ k, k < n → w.cell? (x.add k) = some (.int .u8 (Z.getD k 0))) (hn : n ≤ 1048576) (hi : (n : Int) < i) (hm0 : 0 ≤ m) (hm : m ≤ 65536) :
    Calls Try.prog 8 #[.slice (some x) n cap, .int .i64 i, .int .i64 m] w fun e w' => e = .returned (.bool true) ∧ Below w.heap.size w w' := by
  have q22 : ∀ (w : World) (a : Option Addr) (n c n' c' : Nat), (binOp .neq 22 (.slice a n c) (.slice none n' c')).run Try.prog w = .ok (.bool (!a.isNone)) w := fun w a n c n' c' => run_neq_slice_nil_any w _ _ a n c n' c' Try.underlying22
  have HZ : Hid (Z.length = n) := hZ
  have HX : Hid (∀ k, k < n → w.cell? (x.add k) = some (.int .u8 (Z.getD k 0))) := hx
  clear hZ hx
  have hmk := run_make_row' (P := Try.prog) 22 5 (.int .u8 0) 1 Try.underlying22 Try.info5 rfl .i64 .i64 n (by omega) (by omega)
  go_enter Try.func8, Try.ntmps8
  go_upto_region 11 with (go_at_call 17; go_in)
  go_wp2_with (refine copy_fresh rfl (.tmp 35) (.tmp 36) rfl x n cap rfl rfl Z HZ HX ?_; intro w2 hr hB hsz; clear HX hmk q22)
  refine (ZZskipSpace_past _ _ _ i _ (by omega)).mono ?_
  rintro e w' ⟨rfl, rfl⟩
  go_wp2
  go_ret
  exact ⟨rfl, hB⟩

set_option maxRecDepth 100000 in
set_option maxHeartbeats 1000000 in
theorem law8_nil_past (i m : Int) (w : World) (hi : 0 < i) (hm0 : 0 ≤ m) (hm : m ≤ 65536) :
    Calls Try.prog 8 #[.slice none 0 0, .int .i64 i, .int .i64 m] w fun e w' => e = .returned (.bool true) ∧ Below w.heap.size w w' := by
  have q22 : ∀ (w : World) (a : Option Addr) (n c n' c' : Nat), (binOp .neq 22 (.slice a n c) (.slice none n' c')).run Try.prog w = .ok (.bool (!a.isNone)) w := fun w a n c n' c' => run_neq_slice_nil_any w _ _ a n c n' c' Try.underlying22
  go_enter Try.func8, Try.ntmps8
  go_wp2_with (first | (go_at_call 17; go_in) | (go_at_call 18; refine (ZZskipSpace_past none 0 0 i _ (by omega)).mono ?_; rintro e w' ⟨rfl, rfl⟩))
  go_ret
  exact ⟨rfl, Below.refl _ _⟩

theorem make_len8 (u : Nat) (h : u ≤ 4194304) (w : World) : (Instr.makeSlice 22 (.int .i64 (u : Int)) (.int .i64 (u : Int))).run Try.prog w = .ok (.slice (some ⟨w.heap.size, 0, none⟩) u u) (w.alloc (.cells (madeCells #[.int .u8 0] u) 5)) :=
  run_make_row' (P := Try.prog) 22 5 (.int .u8 0) 1 Try.underlying22 Try.info5 rfl .i64 .i64 u (by omega) (by omega) w

set_option maxRecDepth 100000 in
set_option maxHeartbeats 1000000 in
theorem law8_nil (m : Nat) (w : World) (hm : m ≤ 65536) :
    Calls Try.prog 8 #[.slice none 0 0, .int .i64 0, .int .i64 m] w fun e w' => e = .returned (.bool true) ∧ Below w.heap.size w w' := by
  have q22 : ∀ (w : World) (a : Option Addr) (n c n' c' : Nat), (binOp .neq 22 (.slice a n c) (.slice none n' c')).run Try.prog w = .ok (.bool (!a.isNone)) w := fun w a n c n' c' => run_neq_slice_nil_any w _ _ a n c n' c' Try.underlying22
  have hmk := make_len8 m (by omega)
  obtain ⟨T, hT⟩ : ∃ T, T = padded [] 0 m := ⟨_, rfl⟩
  have HT : Hid (T = padded [] 0 m) := hT
  clear hT
  have hTl : T.length = m := by rw [HT.out, padded_length (by simp)]; simp
  have HTl : Hid (T.length = m) := hTl
  have F0 := filled_start w T m hTl
  have hB2 : Below w.heap.size w (w.alloc (.cells (madeCells #[.int .u8 0] m) 5)) := (Below.refl _ _).alloc (Nat.le_refl _) _
  clear hTl
  go_enter Try.func8, Try.ntmps8
  go_wp2_with (first | (go_at_call 17; go_in) | (go_at_call 18; refine (ZZskipSpace_past none 0 0 0 _ (by omega)).mono ?_; rintro e w5 ⟨rfl, hw5⟩; replace hw5 := hw5.symm; subst hw5))
  refine wp_loop_rounds 1 ?_
  rw [rounds_succ]
  go_wp2
  refine wp_loop_rounds 1 ?_
  rw [rounds_succ]
  go_wp2
  go_loopw [12] (fun t wr => ∃ j : Nat, j ≤ m ∧ t = .int .i64 (j : Int) ∧ Filled wr w.heap.size T j ∧ Below w.heap.size w wr) (fun t _ => m - (intOf t).toNat)
  case atStart => exact ⟨0, Nat.zero_le _, rfl, F0, hB2⟩
  case round =>
    clear F0 hB2 hmk q22
    obtain ⟨j, hjm, rfl, hF, hBr⟩ := hrel
    by_cases hj : j < m
    · obtain ⟨⟨z', hz2⟩, hz3⟩ := hF.cell (j := j) (by rw [HTl.out]; omega)
      have hg : T.getD j 0 = spByte j := by
        have := padded_mid (Z := []) (i := 0) (m := m) (j := j) (by simp) hj
        rw [Nat.zero_add] at this
        rw [HT.out]; exact this
      have hF' := hF.store (by rw [HTl.out]; omega) hg
      have hBr' := hBr.setCell (p := ⟨w.heap.size, j, none⟩) (Nat.le_refl _) (.int .u8 (spByte j))
      have C := spaceByte_any j wr (by omega)
      clear hg
      generalize spByte j = v at hF' hBr' C
      have HC : Hid (Calls Try.prog 20 #[.int .i64 (j : Int)] wr fun e w' => e = .returned (.int .u8 v) ∧ w' = wr) := C
      clear C
      go_wp2_with (go_at_call 20; refine HC.out.mono ?_; rintro e w5 ⟨rfl, hw5⟩; replace hw5 := hw5.symm; subst hw5)
      go_roundw
      case rel => exact ⟨j + 1, by omega, by go_num, hF', hBr'⟩
      case measure => simp [intOf]; omega
    · obtain rfl : j = m := by omega
      clear hj hjm
      have hRT := hF.whole (n := j) (by rw [HTl.out]; omega) HTl.out
      have A2 : Hid (spAt T 0 = (j : Int)) := by
        show spAt T 0 = (j : Int)
        rw [HT.out, padded_spAt (by simp)]
        simp [spAt, sps]
      clear hF HT
      go_wp2
      refine wp_loop_rounds 1 ?_
      rw [rounds_succ]
      go_wp2_with fail
      refine (ZZskipSpace_any _ _ _ _ T 0 _ (by omega) (by omega) hRT).mono ?_
      rintro e w5 ⟨rfl, rfl⟩
      rw [A2.out]
      go_wp2
      go_ret
      exact ⟨rfl, hBr⟩
end Go.Proofs.Qxb6619262a
