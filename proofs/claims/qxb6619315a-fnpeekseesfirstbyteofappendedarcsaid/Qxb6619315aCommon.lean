/-
  WHAT THE WALKS OF THIS SEAT SHARE: bytes in memory, one byte appended, bits.
-/
import Derived.Test.Qxb6619315aChecked
import Derived.Test.Qxb6619315aPlain
import Derived.WalkKit
import Derived.ProofKit
import Derived.Below
import Derived.WalkSpells
import Derived.WalkSmall
import Derived.Deep.OwnRows
import Derived.ArgAppend
import Derived.Laws.BitsAllLaws
namespace Go.Proofs.Qxb6619315a
open Go.ChangeShapes Go.WideShapes Go.ChangeAt Go.RowKit
open Plain

theorem Try.info5 : (Try.prog.info? 5).map (fun i => (i.zero, i.size, i.bytes)) = some (some (.int .u8 0), 1, 1) := by kernel_rfl

theorem ne_bool {a b : Int} (h : a ≠ b) : (a == b) = false := by simpa using h
theorem ret_int {k : IntKind} {a b : Int} (h : a = b) : Ending.returned (.int k a) = .returned (.int k b) := by rw [h]
theorem ret_bool {a b : Bool} (h : a = b) : Ending.returned (.bool a) = .returned (.bool b) := by rw [h]
theorem getD_drop (zs : List Int) (i k : Nat) : (zs.drop i).getD k 0 = zs.getD (i + k) 0 := by
  simp [List.getD_eq_getElem?_getD, List.getElem?_drop]

/-- The bytes zs lie in memory from offset off of block b on. -/
def Row (w : World) (b off n : Nat) (zs : List Int) : Prop := zs.length = n ∧ ∀ k, k < n → w.cell? ⟨b, off + k, none⟩ = some (.int .u8 (zs.getD k 0))
theorem Row.byteAt {w : World} {b off n : Nat} {zs : List Int} (h : Row w b off n zs) {k : Nat} (hk : k < n) : ∃ z, w.cell? ⟨b, off + k, none⟩ = some (.int .u8 z) ∧ Hid (zs.getD k 0 = z) := ⟨_, h.2 k hk, rfl⟩
theorem Row.drop {w : World} {b off n : Nat} {zs : List Int} (h : Row w b off n zs) {i : Nat} (hi : i ≤ n) : Row w b (off + i) (n - i) (zs.drop i) := by
  refine ⟨by rw [List.length_drop, h.1], fun k hk => ?_⟩
  rw [getD_drop, ← h.2 (i + k) (by omega), Nat.add_assoc]
theorem Row.below {w w' : World} {b off n : Nat} {zs : List Int} (h : Row w b off n zs) (hb : Below w.heap.size w w') : Row w' b off n zs :=
  ⟨h.1, fun k hk => cell_later hb (h.2 k hk)⟩
theorem Row.drewN {w : World} {b off n : Nat} {zs : List Int} (h : Row w b off n zs) (m : Nat) : Row (w.drewN m) b off n zs := ⟨h.1, fun k hk => by rw [World.cell?_drewN]; exact h.2 k hk⟩

/-- A slice (nil or not) of n bytes zs. -/
def Src (w : World) (a : Option Addr) (n : Nat) (zs : List Int) : Prop := zs.length = n ∧ (a = none → n = 0) ∧ ∀ x, a = some x → ∀ k, k < n → w.cell? (x.add k) = some (.int .u8 (zs.getD k 0))
theorem Src.below {w w' : World} {a : Option Addr} {n : Nat} {zs : List Int} (h : Src w a n zs) (hb : Below w.heap.size w w') : Src w' a n zs :=
  ⟨h.1, h.2.1, fun x hx k hk => cell_later hb (h.2.2 x hx k hk)⟩
theorem Src.drewN {w : World} {a : Option Addr} {n : Nat} {zs : List Int} (h : Src w a n zs) (m : Nat) : Src (w.drewN m) a n zs := ⟨h.1, h.2.1, fun x hx k hk => by rw [World.cell?_drewN]; exact h.2.2 x hx k hk⟩
theorem Src.row {w : World} {a : Option Addr} {n : Nat} {zs : List Int} (h : Src w a n zs) (hn : 0 < n) : ∃ b off, a = some ⟨b, off, none⟩ ∧ Row w b off n zs := by
  cases a with
  | none => exact absurd (h.2.1 rfl) (by omega)
  | some x =>
    obtain ⟨b, off, sp⟩ := x
    have hs : sp = none := by simpa [Addr.add] using World.cell?_spot (h.2.2 _ rfl 0 hn)
    subst hs
    exact ⟨b, off, rfl, h.1, fun k hk => by have := h.2.2 _ rfl k hk; rw [add_plain] at this; exact this⟩
theorem Src.empty {w : World} (a : Option Addr) : Src w a 0 [] := ⟨rfl, fun _ => rfl, fun _ _ k hk => absurd hk (by omega)⟩

/-- The cells of a row of bytes. -/
def bytesOf (zs : List Int) : List Value := zs.map (Value.int .u8)
theorem length_bytesOf (zs : List Int) : (bytesOf zs).length = zs.length := by simp [bytesOf]
theorem bytesOf_append (xs ys : List Int) : bytesOf (xs ++ ys) = bytesOf xs ++ bytesOf ys := by simp [bytesOf]
theorem oneCell_bytesOf (zs : List Int) : ∀ v ∈ bytesOf zs, v.oneCell' = true := by
  intro v hv
  simp only [bytesOf, List.mem_map] at hv
  obtain ⟨z, _, rfl⟩ := hv
  rfl
theorem get_bytesOf {zs : List Int} {j : Nat} {v : Value} (h : (bytesOf zs)[j]? = some v) : j < zs.length ∧ v = .int .u8 (zs.getD j 0) := by
  rw [bytesOf, List.getElem?_map] at h
  obtain ⟨z, hz, rfl⟩ := Option.map_eq_some_iff.1 h
  have hj := (List.getElem?_eq_some_iff.1 hz).1
  exact ⟨hj, by rw [List.getD_eq_getElem?_getD, hz]; rfl⟩
theorem bytesOf_get {zs : List Int} {j : Nat} (h : j < zs.length) : (bytesOf zs)[j]? = some (.int .u8 (zs.getD j 0)) := by
  rw [bytesOf, List.getElem?_map, List.getElem?_eq_getElem h, List.getD_eq_getElem?_getD, List.getElem?_eq_getElem h]; rfl

/-- What is appended to: a full slice that came from elsewhere, or a row of the call's own. -/
def Own (w : World) (W : Nat) (v : Value) (n : Nat) (zs : List Int) : Prop :=
  (∃ a, v = .slice a n n ∧ Src w a n zs) ∨ (zs.length = n ∧ w.ownsRow W 5 1 v n (bytesOf zs))

theorem ownsRow_mono {w : World} {B B' : Nat} {e : TypeId} {size : Nat} {v : Value} {n : Nat} {xs : List Value} (h : w.ownsRow B e size v n xs) (hB : B' ≤ B) : w.ownsRow B' e size v n xs := by
  obtain ⟨h1, h2⟩ := h
  refine ⟨h1, ?_⟩
  rcases h2 with h2 | ⟨g, cap, cur, hv, hg, r⟩
  · exact .inl h2
  · exact .inr ⟨g, cap, cur, hv, Nat.le_trans hB hg, r⟩

theorem ownsRow_row {w : World} {B : Nat} {v : Value} {n : Nat} {zs : List Int} (h : w.ownsRow B 5 1 v n (bytesOf zs)) (hz : zs.length = n) (hn : 0 < n) :
    ∃ g cap, v = .slice (some ⟨g, 0, none⟩) n cap ∧ n ≤ cap ∧ cap ≤ maxLen ∧ Row w g 0 n zs := by
  have h2 := h.2
  rcases h2 with ⟨_, h0⟩ | ⟨g, cap, cur, rfl, hg, hh, hnc, hcm, _, _⟩
  · omega
  · refine ⟨g, cap, rfl, hnc, hcm, hz, fun k hk => ?_⟩
    rw [Nat.zero_add, h.cellAt k (by omega)]
    exact bytesOf_get (by omega)

/-- 'c = append(c, b)', b laid in a new block first: a law for the walk. -/
theorem append_byte {w : World} {ops : Array Oper} {rest : List Oper} {o : Oper} {a : Act} {Q : Exit → Act → World → Prop} (hgd : o.guard = none) (s x : Operand)
    (ho : o.op = .call { callee := .builtin .append, args := #[s, x], argTypes := #[22, 22] }) (W n : Nat) (v : Value) (zs : List Int) (b : Int)
    (hs : a.eval s = v) (hx : a.eval x = .slice (some ⟨w.heap.size, 0, none⟩) 1 1) (hown : Own w W v n zs) (hW : W ≤ w.heap.size) (hn : n ≤ 4194304)
    (h : ∀ v' w', w'.ownsRow W 5 1 v' (n + 1) (bytesOf (zs ++ [b])) → Below W w w' → wpList Try.prog ops Q rest (a.put o.dst v') w') :
    wpList Try.prog ops Q (o :: rest) a (w.alloc (.cells #[.int .u8 b] 5)) := by
  obtain ⟨i0, hi0, hz0, hz1, hz2⟩ := info_parts Try.info5
  have hb0 : Below W w (w.alloc (.cells #[.int .u8 b] 5)) := (Below.refl _ _).alloc hW _
  have hbb : Below w.heap.size w (w.alloc (.cells #[.int .u8 b] 5)) := (Below.refl _ _).alloc (Nat.le_refl _) _
  have hnew : ∀ j u, ([.int .u8 b] : List Value)[j]? = some u → (w.alloc (.cells #[.int .u8 b] 5)).cell? ((⟨w.heap.size, 0, none⟩ : Addr).add j) = some u := cell_one_new _ _ _
  have h1 : ∀ u ∈ ([.int .u8 b] : List Value), u.oneCell' = true := by
    intro u hu
    simp only [List.mem_singleton] at hu
    subst hu; rfl
  have hsz : (w.alloc (.cells #[.int .u8 b] 5)).heap.size = w.heap.size + 1 := by simp
  rcases hown with ⟨av, rfl, hsrc⟩ | ⟨hzl, hrow⟩
  · refine wpList_append_grows _ hgd s x 22 ho 5 i0 (.int .u8 0) 1 1 Try.underlying22 hi0 hz0 hz1 hz2 rfl (by decide) av n n (bytesOf zs) hs (fun e => ⟨hsrc.2.1 e, hsrc.2.1 e⟩) (by rw [length_bytesOf, hsrc.1]; omega) ?_ ⟨w.heap.size, 0, none⟩ 1 1 [.int .u8 b] hx rfl hnew h1 (by omega) (by unfold maxLen; omega) (by omega) ?_
    · intro y hy j u hu
      obtain ⟨hj, rfl⟩ := get_bytesOf hu
      rw [hsrc.1] at hj
      exact cell_later hbb (hsrc.2.2 y hy j hj)
    · intro v' w' r1 r2
      refine h v' w' ?_ (hb0.grown r2 (by omega) (fun k hk => by cases hk))
      rw [bytesOf_append]
      exact ownsRow_mono r1 (by omega)
  · refine wpList_append_own _ hgd s x 22 ho W 5 i0 (.int .u8 0) 1 1 Try.underlying22 hi0 hz0 hz1 hz2 rfl (by decide) v n (bytesOf zs) hs (hrow.alloc _) ⟨w.heap.size, 0, none⟩ 1 1 [.int .u8 b] hx rfl hnew h1 (by unfold maxLen; omega) (by omega) (by omega) ?_
    intro v' w' r1 r2 _
    refine h v' w' ?_ (hb0.grown r2 (by omega) (fun k hk => (hrow.lt k hk).1))
    rw [bytesOf_append]
    exact r1

/-! ### bits -/
theorem cast_shr (v m : Nat) : ((v : Int)) / 2 ^ m = ((v / 2 ^ m : Nat) : Int) := by simp [Int.natCast_ediv, Int.natCast_pow]
theorem and_127 (x : Nat) (h : x < 256) : bits .and .u8 (x : Int) 127 = ((x % 128 : Nat) : Int) := by
  have := u8_and_nat x 127 h (by omega)
  rw [show ((127 : Nat) : Int) = 127 from rfl] at this
  rw [this, show x &&& 127 = x % 128 from Nat.and_two_pow_sub_one_eq_mod x 7]
theorem or_128 (y : Nat) (h : y < 128) : bits .or .u8 (y : Int) 128 = ((y + 128 : Nat) : Int) := by
  have := u8_or_nat y 128 (by omega) (by omega)
  rw [show ((128 : Nat) : Int) = 128 from rfl] at this
  have h2 := Nat.two_pow_add_eq_or_of_lt (i := 7) (b := y) h 1
  rw [this, Nat.or_comm, show (128 : Nat) = 2 ^ 7 * 1 from rfl, ← h2]
  congr 1
  omega
theorem and_128_low (b : Nat) (h : b < 128) : bits .and .u8 (b : Int) 128 = 0 := by
  have := u8_and_nat b 128 (by omega) (by omega)
  rw [show ((128 : Nat) : Int) = 128 from rfl] at this
  rw [this]
  have h2 : ∀ y : Fin 128, y.val &&& 128 = 0 := by decide
  exact congrArg Int.ofNat (h2 ⟨b, h⟩)
theorem and_128_high (b : Nat) (h : b < 128) : bits .and .u8 ((b + 128 : Nat) : Int) 128 = 128 := by
  have := u8_and_nat (b + 128) 128 (by omega) (by omega)
  rw [show ((128 : Nat) : Int) = 128 from rfl] at this
  rw [this]
  have h2 : ∀ y : Fin 128, (y.val + 128) &&& 128 = 128 := by decide
  exact congrArg Int.ofNat (h2 ⟨b, h⟩)
theorem or_low (acc c : Nat) (ha : acc < 144115188075855872) (hc : c < 128) : bits .or .u64 ((acc * 128 : Nat) : Int) (c : Int) = ((acc * 128 + c : Nat) : Int) := by
  rw [u64_or_nat (acc * 128) c (by omega) (by omega)]
  have h2 := Nat.two_pow_add_eq_or_of_lt (i := 7) (b := c) hc acc
  rw [show acc * 128 = 2 ^ 7 * acc from by omega, ← h2]
end Go.Proofs.Qxb6619315a
