/-
  WALKS: zzBitLen, zzGroups, zzDecodeArc.
-/
import Derived.Test.Qxb6619315aCommon
namespace Go.Proofs.Qxb6619315a
open Go.ChangeShapes Go.WideShapes Go.ChangeAt Go.RowKit
open Plain
set_option linter.unusedVariables false

theorem bit_at (v k : Nat) (hv : v < 18446744073709551616) : bits .and .u64 ((v : Int) / 2 ^ k) 1 = ((v / 2 ^ k % 2 : Nat) : Int) := by
  rw [cast_shr]
  have h : v / 2 ^ k ≤ v := Nat.div_le_self _ _
  generalize v / 2 ^ k = q at h ⊢
  rw [and_one_u64 _ (by omega) (by omega)]
  omega

set_option maxHeartbeats 400000 in
theorem bitLen_any (v : Nat) (w : World) (hv : v < 18446744073709551616) :
    Calls Try.prog 15 #[.int .u64 (v : Int)] w fun e w' => e = .returned (.int .i64 (Plain.bitLen v : Int)) ∧ w' = w := by
  have HV : Hid (v < 18446744073709551616) := hv
  have hv0 : (0 : Int) ≤ (v : Int) := by omega
  have hv1 : (v : Int) ≤ 18446744073709551615 := by omega
  clear hv
  go_enter Try.func15, Try.ntmps15
  go_wp2
  go_loop [3, 4] (fun s3 s4 => ∃ r k : Nat, k ≤ 64 ∧ s4 = .int .i64 (k : Int) ∧ s3 = .int .i64 (r : Int) ∧ Hid (r = bitTo v k)) (fun _ s4 => 64 - (intOf s4).toNat)
  case atStart => exact ⟨0, 0, by omega, rfl, rfl, rfl⟩
  case round =>
    obtain ⟨r, k, hk, rfl, rfl, HR⟩ := hrel
    by_cases hlt : k < 64
    · have e1 := bit_at v k HV.out
      by_cases hp : v / 2 ^ k % 2 = 1
      · have E : Hid (k + 1 = bitTo v (k + 1)) := by
          show k + 1 = bitTo v (k + 1)
          rw [bitTo, if_pos hp]
        rw [hp] at e1
        clear hp HR
        go_wp2
        go_round
        case rel => exact ⟨k + 1, k + 1, by omega, by go_num, by go_num, E⟩
        case measure => simp [intOf]; omega
      · have E : Hid (r = bitTo v (k + 1)) := by
          show r = bitTo v (k + 1)
          rw [bitTo, if_neg hp]; exact HR.out
        rw [show v / 2 ^ k % 2 = 0 from by omega] at e1
        clear hp HR
        go_wp2
        go_round
        case rel => exact ⟨r, k + 1, by omega, by go_num, by go_num, E⟩
        case measure => simp [intOf]; omega
    · obtain rfl : k = 64 := by omega
      have E : Hid ((r : Int) = (Plain.bitLen v : Int)) := by
        show (r : Int) = (Plain.bitLen v : Int)
        rw [HR.out, bitTo_all v 64 (by have := HV.out; omega)]
      clear HR
      go_wp2
      go_ret
      exact ⟨ret_int E.out, rfl⟩

theorem groups_any (v : Nat) (w : World) (hv : v < 18446744073709551616) :
    Calls Try.prog 11 #[.int .u64 (v : Int)] w fun e w' => e = .returned (.int .i64 (grp v : Int)) ∧ w' = w := by
  have HV : Hid (v < 18446744073709551616) := hv
  have hb := bitLen_le hv
  have hg := grp_bitLen v
  clear hv
  by_cases h0 : Plain.bitLen v = 0
  · rw [if_pos h0] at hg
    have E : Hid ((1 : Int) = (grp v : Int)) := by
      show (1 : Int) = (grp v : Int)
      rw [hg]; rfl
    clear hg
    go_enter Try.func11, Try.ntmps11
    go_wp2_with (go_at_call 15; refine (bitLen_any v _ HV.out).mono ?_; rintro e w' ⟨rfl, rfl⟩)
    go_ret
    exact ⟨ret_int E.out, rfl⟩
  · rw [if_neg h0] at hg
    have h1 : 1 ≤ Plain.bitLen v := by omega
    have E : Hid (((Plain.bitLen v : Int) + 6) / 7 = (grp v : Int)) := by
      show ((Plain.bitLen v : Int) + 6) / 7 = (grp v : Int)
      rw [hg]; omega
    clear hg h0
    go_enter Try.func11, Try.ntmps11
    go_wp2_with (go_at_call 15; refine (bitLen_any v _ HV.out).mono ?_; rintro e w' ⟨rfl, rfl⟩)
    go_ret
    exact ⟨ret_int E.out, rfl⟩

theorem or_low' (q y : Nat) (ha : q < 144115188075855872) (hc : y < 128) : bits .or .u64 ((q : Int) * 128) (y : Int) = ((q * 128 + y : Nat) : Int) := by
  rw [← or_low q y ha hc]
  congr 1
theorem and_127_high (y : Nat) (h : y < 128) : bits .and .u8 ((y + 128 : Nat) : Int) 127 = (y : Int) := by
  rw [and_127 _ (by omega)]
  congr 1
  omega

set_option maxRecDepth 100000 in
set_option maxHeartbeats 1000000 in
theorem decode_any (b off c : Nat) (v : Nat) (w : World) (hr : Row w b off (grp v) (arc v)) (hv : v < 18446744073709551616) :
    Calls Try.prog 10 #[.slice (some ⟨b, off, none⟩) (grp v) c] w fun e w' => e = .returned (.tuple #[.int .u64 (v : Int), .bool true]) ∧ w' = w := by
  have HV : Hid (v < 18446744073709551616) := hv
  have hG := grp_le hv
  have hG1 := grp_pos v
  clear hv
  obtain ⟨G, hGe⟩ : ∃ G, G = grp v := ⟨_, rfl⟩
  have HG : Hid (G = grp v) := hGe
  rw [← hGe] at hG hG1 hr ⊢
  clear hGe
  obtain ⟨z0, hz0, HZ0⟩ := hr.byteAt (k := 0) (by omega)
  rw [Nat.add_zero] at hz0
  have hne : (z0 == 128) = false := by
    refine ne_bool fun h => ?_
    have h1 := HZ0.out
    rw [arc_getD (by rw [← HG.out]; omega), Nat.sub_zero] at h1
    by_cases hm : 1 < grp v
    · have := first_many hm; omega
    · have := first_one (v := v) (by have := grp_pos v; omega); omega
  clear HZ0
  have E0 : Hid (0 = sh v (G - 0)) := by
    show 0 = sh v (G - 0)
    rw [Nat.sub_zero, HG.out]; exact (grp_top v).symm
  have hG0 : ((G : Int) == 0) = false := ne_bool (by omega)
  go_enter Try.func10, Try.ntmps10
  go_wp2
  go_loop [4, 5] (fun s4 s5 => ∃ q k : Nat, k ≤ G ∧ s4 = .int .u64 (q : Int) ∧ s5 = .int .i64 (k : Int) ∧ Hid (q = sh v (G - k))) (fun _ s5 => G - (intOf s5).toNat)
  case atStart => exact ⟨0, 0, by omega, rfl, rfl, E0⟩
  case round =>
    clear E0 hz0 hne
    obtain ⟨q, k, hk, rfl, rfl, HQ⟩ := hrel
    by_cases hkG : k < G
    · obtain ⟨z, hz1, HZ⟩ := hr.byteAt (k := k) hkG
      have hz := HZ.out
      rw [arc_getD (by rw [← HG.out]; exact hkG), ← HG.out] at hz
      have hq : q < 144115188075855872 := by
        have h1 := sh_succ v (G - k - 1)
        have h2 := sh_le v (G - k - 1)
        rw [show G - k - 1 + 1 = G - k from by omega, ← HQ.out] at h1
        have := HV.out
        omega
      have hstep : sh v (G - (k + 1)) = q * 128 + sh v (G - (k + 1)) % 128 := by
        have h1 := sh_step v (G - (k + 1))
        rw [show G - (k + 1) + 1 = G - k from by omega, ← HQ.out] at h1
        omega
      obtain ⟨y, hy⟩ : ∃ y, y = sh v (G - (k + 1)) % 128 := ⟨_, rfl⟩
      have hy128 : y < 128 := by omega
      rw [← hy] at hstep
      have E : Hid (q * 128 + y = sh v (G - (k + 1))) := hstep.symm
      have EO : Hid (bits .or .u64 ((q : Int) * 128) (y : Int) = ((q * 128 + y : Nat) : Int)) := or_low' q y hq hy128
      by_cases hlast : k + 1 = G
      · have hzy : z = (y : Int) := by
          rw [← hz, hy]; unfold dig; rw [if_pos (by omega), show G - 1 - k = G - (k + 1) from by omega]; rfl
        have e1 : bits .and .u8 z 128 = 0 := by rw [hzy]; exact and_128_low y hy128
        have e2 : bits .and .u8 z 127 = (y : Int) := by
          rw [hzy, and_127 y (by omega), Nat.mod_eq_of_lt hy128]
        have hl' : ((k : Int) == (G : Int) - 1) = true := by
          have : (k : Int) = (G : Int) - 1 := by omega
          simpa using this
        clear hz HZ HQ hstep hy hzy hlast
        go_wp2
        go_round
        case rel => exact ⟨q * 128 + y, k + 1, by omega, congrArg (Value.int .u64) EO.out, by go_num, E⟩
        case measure => simp [intOf]; omega
      · have hzy : z = ((y + 128 : Nat) : Int) := by
          rw [← hz, hy]; unfold dig; rw [if_neg (by omega), show G - 1 - k = G - (k + 1) from by omega]
        have e1 : bits .and .u8 z 128 = 128 := by rw [hzy]; exact and_128_high y hy128
        have e2 : bits .and .u8 z 127 = (y : Int) := by rw [hzy]; exact and_127_high y hy128
        have hl' : ((k : Int) == (G : Int) - 1) = false := ne_bool (by omega)
        clear hz HZ HQ hstep hy hzy hlast
        go_wp2
        go_round
        case rel => exact ⟨q * 128 + y, k + 1, by omega, congrArg (Value.int .u64) EO.out, by go_num, E⟩
        case measure => simp [intOf]; omega
    · obtain rfl : k = G := by omega
      have E : Hid (q = v) := by
        show q = v
        rw [HQ.out, Nat.sub_self, sh_zero]
      clear HQ
      go_wp2
      go_ret2
      exact ⟨by rw [← E.out]; rfl, rfl⟩
end Go.Proofs.Qxb6619315a
