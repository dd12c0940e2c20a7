/-
  WALKS: zzCloneBytes, appendArc.
-/
import Derived.Test.Qxb6619315aCommon
import Derived.Deep.DeepCutAuto
namespace Go.Proofs.Qxb6619315a
open Go.ChangeShapes Go.WideShapes Go.ChangeAt Go.RowKit
open Plain
set_option linter.unusedVariables false

/-- Block g is a row of bytes, as long as T, whose first k are T's. -/
def Filled (w : World) (g : Nat) (T : List Int) (k : Nat) : Prop :=
  ∃ L : List Int, L.length = T.length ∧ (∀ j, j < k → L.getD j 0 = T.getD j 0) ∧ w.heap[g]? = some (.cells (bytesOf L).toArray 5 (0, 0))
theorem madeCells_bytes (n : Nat) : madeCells #[Value.int .u8 0] n = (bytesOf (List.replicate n 0)).toArray := by
  apply Array.ext'
  simp [madeCells, bytesOf]
  apply List.ext_getElem
  · simp
  · intro i h1 h2
    simp [Nat.mod_one]
theorem filled_start (w : World) (T : List Int) (n : Nat) (hn : T.length = n) : Filled (w.alloc (.cells (madeCells #[.int .u8 0] n) 5)) w.heap.size T 0 := by
  refine ⟨List.replicate n 0, by simp [hn], fun j hj => absurd hj (by omega), ?_⟩
  show (w.heap.push _)[w.heap.size]? = _
  rw [madeCells_bytes]
  simp
theorem Filled.cell {w : World} {g : Nat} {T : List Int} {k : Nat} (h : Filled w g T k) {j : Nat} (hj : j < T.length) :
    (∃ z, w.cell? ⟨g, j, none⟩ = some (.int .u8 z)) ∧ w.frozen? ⟨g, j, none⟩ = false := by
  obtain ⟨L, h1, _, h3⟩ := h
  refine ⟨⟨L.getD j 0, ?_⟩, ?_⟩
  · simp only [World.cell?, h3]
    simp [bytesOf, List.getD_eq_getElem?_getD, List.getElem?_eq_getElem (show j < L.length by omega)]
  · simp [World.frozen?, h3]
theorem Filled.store {w : World} {g : Nat} {T : List Int} {k : Nat} (h : Filled w g T k) (hk : k < T.length) {v : Int} (hv : T.getD k 0 = v) :
    Filled (w.setCell ⟨g, k, none⟩ (.int .u8 v)) g T (k + 1) := by
  obtain ⟨L, h1, h2, h3⟩ := h
  refine ⟨L.set k v, by simpa using h1, fun j hj => ?_, ?_⟩
  · by_cases e : j = k
    · subst e
      rw [List.getD_eq_getElem?_getD, List.getElem?_set_self (by omega), hv]; rfl
    · rw [List.getD_eq_getElem?_getD, List.getElem?_set_ne (by omega), ← List.getD_eq_getElem?_getD]
      exact h2 j (by omega)
  · have := heap_setCell_same w g k (bytesOf L).toArray 5 (.int .u8 v) h3
    rw [this]
    simp [bytesOf]
theorem Filled.whole {w : World} {g : Nat} {T : List Int} {k n : Nat} (h : Filled w g T k) (hk : T.length ≤ k) (hn : T.length = n) : Src w (some ⟨g, 0, none⟩) n T := by
  obtain ⟨L, h1, h2, h3⟩ := h
  have : L = T := by
    apply List.ext_getElem h1
    intro j ja jb
    have := h2 j (by omega)
    rw [List.getD_eq_getElem?_getD, List.getD_eq_getElem?_getD, List.getElem?_eq_getElem ja, List.getElem?_eq_getElem jb] at this
    simpa using this
  subst this
  refine ⟨hn, fun e => (by cases e), fun x hx k hk => ?_⟩
  injection hx with hx
  subst hx
  rw [add_plain, Nat.zero_add]
  simp only [World.cell?, h3]
  simp [bytesOf, List.getD_eq_getElem?_getD, List.getElem?_eq_getElem (show k < L.length by omega)]

set_option maxHeartbeats 1000000 in
/-- The clone reads as its source did; it is full. -/
theorem clone_any (a : Option Addr) (n cap : Nat) (Z : List Int) (w : World) (hcap : a = none → cap = 0) (hs : Src w a n Z) (hn : n ≤ 1048576) :
    Calls Try.prog 7 #[.slice a n cap] w fun e w' => ∃ a', e = .returned (.slice a' n n) ∧ Src w' a' n Z ∧ Below w.heap.size w w' := by
  have q22 : ∀ (w : World) (a : Option Addr) (n c n' c' : Nat), (binOp .eql 22 (.slice a n c) (.slice none n' c')).run Try.prog w = .ok (.bool a.isNone) w := fun w a n c n' c' => Lib.run_eql_slice_nil w _ _ a n c n' c' Try.underlying22
  cases a with
  | none =>
    obtain rfl := hcap rfl
    obtain rfl := hs.2.1 rfl
    have HS : Hid (Src w none 0 Z) := hs
    clear hs hcap
    go_enter Try.func7, Try.ntmps7
    go_wp2
    go_ret
    exact ⟨none, rfl, HS.out, Below.refl _ _⟩
  | some x =>
    have hmk := run_make_row' (P := Try.prog) 22 5 (.int .u8 0) 1 Try.underlying22 Try.info5 rfl .i64 .i64 n (by omega) (by omega)
    have F0 := filled_start w Z n hs.1
    have hB2 : Below w.heap.size w (w.alloc (.cells (madeCells #[.int .u8 0] n) 5)) := (Below.refl _ _).alloc (Nat.le_refl _) _
    have HS : Hid (Src w (some x) n Z) := hs
    have HZ : Hid (Z.length = n) := hs.1
    clear hs hcap
    go_enter Try.func7, Try.ntmps7
    go_wp2
    go_loopw [4] (fun t wr => ∃ k : Nat, k ≤ n ∧ t = .int .i64 (k : Int) ∧ Filled wr w.heap.size Z k ∧ Below w.heap.size w wr) (fun t _ => n - (intOf t).toNat)
    case atStart => exact ⟨0, Nat.zero_le _, rfl, F0, hB2⟩
    case round =>
      clear F0 hB2 hmk q22
      obtain ⟨k, hk, rfl, hF, hBr⟩ := hrel
      by_cases hkn : k < n
      · obtain ⟨b, off, hx, hrow⟩ := HS.out.row (by omega)
        injection hx with hx
        subst hx
        obtain ⟨z, hz1, HZk⟩ := (hrow.below hBr).byteAt hkn
        obtain ⟨⟨z', hz2⟩, hz3⟩ := hF.cell (j := k) (by rw [HZ.out]; omega)
        have hF' := hF.store (by rw [HZ.out]; omega) HZk.out
        have hBr' := hBr.setCell (p := ⟨w.heap.size, k, none⟩) (Nat.le_refl _) (.int .u8 z)
        have hne : b < w.heap.size := World.block_lt_of_cell? w _ (hrow.2 k hkn)
        clear HZk hrow
        go_wp2
        go_roundw
        case rel => exact ⟨k + 1, by omega, by go_num, hF', hBr'⟩
        case measure => simp [intOf]; omega
      · obtain rfl : k = n := by omega
        have hW := hF.whole (n := k) (by rw [HZ.out]; omega) HZ.out
        clear hF
        go_wp2
        go_ret
        exact ⟨_, rfl, hW, hBr⟩

theorem cast_128 (v : Nat) : ((v : Int)) / 128 = ((v / 128 : Nat) : Int) := by simp [Int.natCast_ediv]

/-- The byte of group i, as the walk reckons it. -/
theorem byte_low (v i : Nat) : bits .and .u8 ((v : Int) / 2 ^ (7 * i) % 256) 127 = ((sh v i % 128 : Nat) : Int) := by
  have h : (v : Int) / 2 ^ (7 * i) % 256 = ((sh v i % 256 : Nat) : Int) := by
    rw [cast_shr]; unfold sh; omega
  rw [h, and_127 _ (by omega)]
  congr 1
  omega

/-- What the slice holds when r groups are still to be appended. -/
def ArcRel (w : World) (W : Nat) (a : Option Addr) (n : Nat) (Z : List Int) (v G r : Nat) (s : Value) : Prop :=
  (r = G ∧ s = .slice a n n ∧ Src w a n Z) ∨ (r < G ∧ w.ownsRow W 5 1 s (n + (G - r)) (bytesOf (Z ++ (arc v).take (G - r))))
theorem arcRel_len {Z : List Int} {v G n r : Nat} (hZ : Z.length = n) (hG : G = grp v) : (Z ++ (arc v).take (G - r)).length = n + (G - r) := by
  rw [List.length_append, List.length_take, arc_length, hZ, hG]; omega
theorem arcRel_own {w : World} {W : Nat} {a : Option Addr} {n : Nat} {Z : List Int} {v G r : Nat} {s : Value} (h : ArcRel w W a n Z v G r s) (hZ : Z.length = n) (hG : G = grp v) : Own w W s (n + (G - r)) (Z ++ (arc v).take (G - r)) := by
  rcases h with ⟨rfl, rfl, h⟩ | ⟨hr, h⟩
  · left
    rw [Nat.sub_self, List.take_zero, List.append_nil, Nat.add_zero]
    exact ⟨a, rfl, h⟩
  · exact .inr ⟨arcRel_len hZ hG, h⟩
theorem arcRel_next {w : World} {W : Nat} {a : Option Addr} {n : Nat} {Z : List Int} {v G r : Nat} {s : Value} {d : Int} (hG : G = grp v) (hr1 : 1 ≤ r) (hr : r ≤ G) (hd : ((dig v (r - 1) : Nat) : Int) = d)
    (h : w.ownsRow W 5 1 s (n + (G - r) + 1) (bytesOf ((Z ++ (arc v).take (G - r)) ++ [d]))) : ArcRel w W a n Z v G (r - 1) s := by
  right
  refine ⟨by omega, ?_⟩
  have e : (arc v).take (G - (r - 1)) = (arc v).take (G - r) ++ [d] := by
    rw [show G - (r - 1) = (G - r) + 1 from by omega, arc_take_succ (by omega), ← hG, show G - 1 - (G - r) = r - 1 from by omega, hd]
  rw [e, show n + (G - (r - 1)) = n + (G - r) + 1 from by omega, ← List.append_assoc]
  exact h

set_option maxRecDepth 100000 in
set_option maxHeartbeats 2000000 in
theorem appendArc_any (a : Option Addr) (n : Nat) (Z : List Int) (v : Nat) (w : World) (hs : Src w a n Z) (hn : n ≤ 1048576) (hv : v < 18446744073709551616) :
    Calls Try.prog 17 #[.slice a n n, .int .u64 (v : Int)] w fun e w' => ∃ g cap, e = .returned (.slice (some ⟨g, 0, none⟩) (n + grp v) cap) ∧ n + grp v ≤ cap ∧ cap ≤ maxLen ∧ Row w' g 0 (n + grp v) (Z ++ arc v) ∧ Below w.heap.size w w' := by
  have HV : Hid (v < 18446744073709551616) := hv
  have hG := grp_le hv
  have hG1 := grp_pos v
  have hv0 : (0 : Int) ≤ (v : Int) := by omega
  have hv1 : (v : Int) ≤ 18446744073709551615 := by omega
  clear hv
  obtain ⟨G, hGe⟩ : ∃ G, G = grp v := ⟨_, rfl⟩
  have HG : Hid (G = grp v) := hGe
  rw [← hGe] at hG hG1 ⊢
  clear hGe
  have HS : Hid (Src w a n Z) := hs
  have HZ : Hid (Z.length = n) := hs.1
  clear hs
  go_enter Try.func17, Try.ntmps17
  go_wp2
  go_loop [5, 6] (fun t5 t6 => ∃ k q : Nat, 1 ≤ k ∧ k ≤ G ∧ t5 = .int .i64 (k : Int) ∧ t6 = .int .u64 (q : Int) ∧ Hid (q = sh v k)) (fun t5 _ => G - (intOf t5).toNat)
  case atStart => exact ⟨1, sh v 1, by omega, hG1, rfl, by rw [cast_128, sh_succ, sh_zero], rfl⟩
  case round =>
    obtain ⟨k, q, hk1, hkG, rfl, rfl, HQ⟩ := hrel
    have hqv : q ≤ v := by rw [HQ.out]; exact sh_le v k
    by_cases hlt : k < G
    · have hq : 0 < q := by rw [HQ.out]; exact (grp_test v k hk1).2 (by rw [← HG.out]; exact hlt)
      have E : Hid (q / 128 = sh v (k + 1)) := by
        show q / 128 = sh v (k + 1)
        rw [HQ.out, sh_succ]
      go_wp2
      go_round
      case rel => exact ⟨k + 1, q / 128, by omega, by omega, by go_num, by rw [cast_128], E.out⟩
      case measure => simp [intOf]; omega
    · obtain rfl : k = G := by omega
      obtain rfl : q = 0 := by rw [HQ.out, HG.out]; exact grp_top v
      clear HQ hlt hkG hqv
      go_wp2
      go_loopw [0, 7] (fun s0 s7 wr => ∃ r : Nat, r ≤ k ∧ s7 = .int .i64 ((r : Int) - 1) ∧ ArcRel wr w.heap.size a n Z v k r s0 ∧ Below w.heap.size w wr) (fun _ s7 _ => (intOf s7 + 1).toNat)
      case atStart => exact ⟨k, Nat.le_refl _, rfl, .inl ⟨rfl, rfl, HS.out⟩, Below.refl _ _⟩
      case round =>
        obtain ⟨r, hrk, rfl, hA, hBr⟩ := hrel
        by_cases hr0 : 1 ≤ r
        · have hown := arcRel_own hA HZ.out HG.out
          have hW := hBr.size
          have e1 := byte_low v (r - 1)
          obtain ⟨y, hy⟩ : ∃ y, y = sh v (r - 1) % 128 := ⟨_, rfl⟩
          have hy128 : y < 128 := by omega
          have HY : Hid (y = sh v (r - 1) % 128) := hy
          rw [← hy] at e1
          clear hy hA
          by_cases hr1 : 1 < r
          · have HD : Hid (((dig v (r - 1) : Nat) : Int) = ((y + 128 : Nat) : Int)) := by
              show ((dig v (r - 1) : Nat) : Int) = ((y + 128 : Nat) : Int)
              unfold dig; rw [if_neg (by omega), ← HY.out]
            have e2 := or_128 y hy128
            generalize ((y + 128 : Nat) : Int) = d at e2 HD
            go_wp2_with (at_builtin; refine append_byte rfl (.tmp 33) (.tmp 35) rfl w.heap.size (n + (k - r)) _ (Z ++ (arc v).take (k - r)) d rfl rfl hown hW (by omega) ?_; intro v' w1 g1 g2)
            go_roundw
            case rel => exact ⟨r - 1, by omega, by go_num, arcRel_next HG.out hr0 hrk HD.out g1, hBr.trans g2⟩
            case measure => simp [intOf]; omega
          · have HD : Hid (((dig v (r - 1) : Nat) : Int) = (y : Int)) := by
              show ((dig v (r - 1) : Nat) : Int) = (y : Int)
              unfold dig; rw [if_pos (by omega), ← HY.out]; rfl
            generalize (y : Int) = d at e1 HD
            go_wp2_with (at_builtin; refine append_byte rfl (.tmp 33) (.tmp 35) rfl w.heap.size (n + (k - r)) _ (Z ++ (arc v).take (k - r)) d rfl rfl hown hW (by omega) ?_; intro v' w1 g1 g2)
            go_roundw
            case rel => exact ⟨r - 1, by omega, by go_num, arcRel_next HG.out hr0 hrk HD.out g1, hBr.trans g2⟩
            case measure => simp [intOf]; omega
        · obtain rfl : r = 0 := by omega
          rcases hA with ⟨h, _⟩ | ⟨_, hrow⟩
          · omega
          · rw [Nat.sub_zero] at hrow
            have htk : (arc v).take k = arc v := List.take_of_length_le (by rw [arc_length, ← HG.out]; omega)
            rw [htk] at hrow
            obtain ⟨g, cap, hv', hc1, hc2, hR⟩ := ownsRow_row hrow (by rw [List.length_append, HZ.out, arc_length, ← HG.out]) (by omega)
            clear hrow htk
            have HV' : Hid (_ = Value.slice (some ⟨g, 0, none⟩) (n + k) cap) := hv'
            clear hv'
            go_wp2
            go_ret
            exact ⟨g, cap, congrArg Ending.returned HV'.out, hc1, hc2, hR, hBr⟩

theorem ZZAppendArc_any (a : Option Addr) (n : Nat) (Z : List Int) (v : Nat) (w : World) (hs : Src w a n Z) (hn : n ≤ 1048576) (hv : v < 18446744073709551616) :
    Calls Try.prog 8 #[.slice a n n, .int .u64 (v : Int)] w fun e w' => ∃ g cap, e = .returned (.slice (some ⟨g, 0, none⟩) (n + grp v) cap) ∧ n + grp v ≤ cap ∧ cap ≤ maxLen ∧ Row w' g 0 (n + grp v) (Z ++ arc v) ∧ Below w.heap.size w w' := by
  have H : Hid (Calls Try.prog 17 #[.slice a n n, .int .u64 (v : Int)] w fun e w' => ∃ g cap, e = .returned (.slice (some ⟨g, 0, none⟩) (n + grp v) cap) ∧ n + grp v ≤ cap ∧ cap ≤ maxLen ∧ Row w' g 0 (n + grp v) (Z ++ arc v) ∧ Below w.heap.size w w') := appendArc_any a n Z v w hs hn hv
  clear hs hn hv
  go_enter Try.func8, Try.ntmps8
  go_wp2_with (go_at_call 17; refine H.out.mono ?_; rintro e w' ⟨g, cap, rfl, h1, h2, h3, h4⟩)
  go_ret
  exact ⟨g, cap, rfl, h1, h2, h3, h4⟩
end Go.Proofs.Qxb6619315a
