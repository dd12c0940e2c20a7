/-
  WALKS: zzHasPrefix, zzShortlex.
-/
import Derived.Test.Qxb6619315aCommon
import Derived.Deep.QuietTactic
import Derived.BigQuiet
namespace Go.Proofs.Qxb6619315a
open Go.ChangeShapes Go.WideShapes Go.ChangeAt Go.RowKit
open Plain
set_option linter.unusedVariables false

theorem hasPrefix_empty (a b : Option Addr) (N c d : Nat) (w : World) :
    Calls Try.prog 9 #[.slice a N c, .slice b 0 d] w fun e w' => e = .returned (.bool true) ∧ ∃ m, w' = w.drewN m := by
  go_enter Try.func9, Try.ntmps9
  go_wp2
  refine wp_loop_rounds 1 ?_
  rw [rounds_succ]
  go_wp2
  go_ret
  exact ⟨rfl, 0, rfl⟩

set_option maxHeartbeats 1000000 in
theorem hasPrefix_row (b off N c : Nat) (S : List Int) (b' off' n d : Nat) (P : List Int) (w : World) (hs : Row w b off N S) (hp : Row w b' off' n P) (hN : N ≤ 4194304) (hn : n ≤ N) (heq : ∀ k, k < n → S.getD k 0 = P.getD k 0) :
    Calls Try.prog 9 #[.slice (some ⟨b, off, none⟩) N c, .slice (some ⟨b', off', none⟩) n d] w fun e w' => e = .returned (.bool true) ∧ ∃ m, w' = w.drewN m := by
  have HE : Hid (∀ k, k < n → S.getD k 0 = P.getD k 0) := heq
  clear heq
  go_enter Try.func9, Try.ntmps9
  go_wp2
  go_loopw [5] (fun t wr => ∃ k m : Nat, k ≤ n ∧ t = .int .i64 (k : Int) ∧ wr = w.drewN m) (fun t _ => n - (intOf t).toNat)
  case atStart => exact ⟨0, 0, Nat.zero_le _, rfl, rfl⟩
  case round =>
    obtain ⟨k, m, hk, rfl, rfl⟩ := hrel
    by_cases hkn : k < n
    · obtain ⟨z, hz1, HZ⟩ := hs.byteAt (k := k) (by omega)
      obtain ⟨y, hy1, HY⟩ := hp.byteAt (k := k) hkn
      obtain rfl : z = y := by rw [← HZ.out, ← HY.out]; exact HE.out k hkn
      have hkN : (k : Int) < (N : Int) := by omega
      have hkn' : (k : Int) < (n : Int) := by omega
      go_wp2
      go_quiet (fail)
      go_wp2
      go_roundw
      case rel => exact ⟨k + 1, _, by omega, by go_num, rfl⟩
      case measure => simp [intOf]; omega
    · obtain rfl : k = n := by omega
      go_wp2
      go_ret
      exact ⟨rfl, m, rfl⟩

theorem hasPrefix_any (b off N c : Nat) (S : List Int) (a : Option Addr) (n d : Nat) (P : List Int) (w : World) (hs : Row w b off N S) (hp : Src w a n P) (hN : N ≤ 4194304) (hn : n ≤ N) (heq : ∀ k, k < n → S.getD k 0 = P.getD k 0) :
    Calls Try.prog 9 #[.slice (some ⟨b, off, none⟩) N c, .slice a n d] w fun e w' => e = .returned (.bool true) ∧ ∃ m, w' = w.drewN m := by
  by_cases h0 : n = 0
  · subst h0; exact hasPrefix_empty _ _ _ _ _ _
  · obtain ⟨b', off', rfl, hrow⟩ := hp.row (by omega)
    exact hasPrefix_row b off N c S b' off' n d P w hs hrow hN hn heq

set_option maxHeartbeats 2000000 in
theorem shortlex_any (b off c : Nat) (u : Nat) (b' off' d : Nat) (v : Nat) (w : World) (hu : Row w b off (grp u) (arc u)) (hv : Row w b' off' (grp v) (arc v)) (hgu : grp u ≤ 10) (hgv : grp v ≤ 10) :
    Calls Try.prog 13 #[.slice (some ⟨b, off, none⟩) (grp u) c, .slice (some ⟨b', off', none⟩) (grp v) d] w fun e w' => e = .returned (.int .i64 (sgn u v)) ∧ ∃ m, w' = w.drewN m := by
  obtain ⟨N, hN⟩ : ∃ N, N = sgn u v := ⟨_, rfl⟩
  have HN : Hid (N = sgn u v) := hN
  rw [← hN]
  clear hN
  obtain ⟨G, hG⟩ : ∃ G, G = grp u := ⟨_, rfl⟩
  have HG : Hid (G = grp u) := hG
  rw [← hG] at hgu hu ⊢
  clear hG
  obtain ⟨K, hK⟩ : ∃ K, K = grp v := ⟨_, rfl⟩
  have HK : Hid (K = grp v) := hK
  rw [← hK] at hgv hv ⊢
  clear hK
  by_cases h1 : G < K
  · have E : Hid (-1 = N) := by
      show -1 = N
      rw [HN.out]; exact (sgn_len_lt (by rw [← HG.out, ← HK.out]; exact h1)).symm
    go_enter Try.func13, Try.ntmps13
    go_wp2
    go_ret
    exact ⟨ret_int E.out, 0, rfl⟩
  by_cases h2 : K < G
  · have E : Hid (1 = N) := by
      show 1 = N
      rw [HN.out]; exact (sgn_len_gt (by rw [← HG.out, ← HK.out]; exact h2)).symm
    go_enter Try.func13, Try.ntmps13
    go_wp2
    go_ret
    exact ⟨ret_int E.out, 0, rfl⟩
  obtain rfl : K = G := by omega
  clear h1 h2
  have E0 : Hid (sh u (K - 0) = sh v (K - 0)) := by
    show sh u (K - 0) = sh v (K - 0)
    have a1 := grp_top u
    have a2 := grp_top v
    rw [← HG.out] at a1
    rw [← HK.out] at a2
    rw [Nat.sub_zero, a1, a2]
  go_enter Try.func13, Try.ntmps13
  go_wp2
  go_loopw [5] (fun t wr => ∃ k m : Nat, k ≤ K ∧ t = .int .i64 (k : Int) ∧ wr = w.drewN m ∧ Hid (sh u (K - k) = sh v (K - k))) (fun t _ => K - (intOf t).toNat)
  case atStart => exact ⟨0, 0, Nat.zero_le _, rfl, rfl, E0⟩
  case round =>
    clear E0
    obtain ⟨k, m, hk, rfl, rfl, HE⟩ := hrel
    by_cases hkn : k < K
    · obtain ⟨z, hz1, HZ⟩ := hu.byteAt (k := k) hkn
      obtain ⟨y, hy1, HY⟩ := hv.byteAt (k := k) hkn
      have hkn' : (k : Int) < (K : Int) := by omega
      have hz : ((dig u (K - 1 - k) : Nat) : Int) = z := by
        rw [← HZ.out, arc_getD (by rw [← HG.out]; exact hkn), ← HG.out]
      have hy : ((dig v (K - 1 - k) : Nat) : Int) = y := by
        rw [← HY.out, arc_getD (by rw [← HK.out]; exact hkn), ← HK.out]
      have hp : sh u (K - 1 - k + 1) = sh v (K - 1 - k + 1) := by
        rw [show K - 1 - k + 1 = K - k from by omega]; exact HE.out
      by_cases hlt : z < y
      · have E : Hid (-1 = N) := by
          show -1 = N
          rw [HN.out]; exact (sgn_byte_lt hp (by omega)).symm
        clear hz hy hp HZ HY HE
        go_wp2
        go_quiet (fail)
        go_wp2
        go_ret
        exact ⟨ret_int E.out, by simp only [World.drewN_drewN]; exact ⟨_, rfl⟩⟩
      by_cases hgt : y < z
      · have E : Hid (1 = N) := by
          show 1 = N
          rw [HN.out]; exact (sgn_byte_gt hp (by omega)).symm
        clear hz hy hp HZ HY HE
        go_wp2
        go_quiet (fail)
        go_wp2
        go_quiet (fail)
        go_wp2
        go_ret
        exact ⟨ret_int E.out, by simp only [World.drewN_drewN]; exact ⟨_, rfl⟩⟩
      · have E : Hid (sh u (K - (k + 1)) = sh v (K - (k + 1))) := by
          show sh u (K - (k + 1)) = sh v (K - (k + 1))
          rw [show K - (k + 1) = K - 1 - k from by omega]
          exact sgn_byte_eq hp (by omega)
        clear hz hy hp HZ HY HE
        go_wp2
        go_quiet (fail)
        go_wp2
        go_quiet (fail)
        go_wp2
        go_roundw
        case rel => exact ⟨k + 1, _, by omega, by go_num, rfl, E⟩
        case measure => simp [intOf]; omega
    · obtain rfl : k = K := by omega
      have E : Hid (0 = N) := by
        show 0 = N
        have he := HE.out
        rw [Nat.sub_self, sh_zero, sh_zero] at he
        rw [HN.out]; exact (sgn_same he).symm
      go_wp2
      go_ret
      exact ⟨ret_int E.out, m, rfl⟩
end Go.Proofs.Qxb6619315a
