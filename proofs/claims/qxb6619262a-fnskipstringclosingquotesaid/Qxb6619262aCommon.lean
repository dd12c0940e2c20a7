/-
  WHAT ALL LAWS OF THIS SEAT SHARE: the copy that each makes first.
-/
import Derived.Test.Qxb6619262aChecked
import Derived.WalkKit
import Derived.ProofKit
import Derived.Below
import Derived.WalkSpells
import Derived.Laws.CopyOwn
import Derived.Deep.OwnRows
namespace Go.Proofs.Qxb6619262a
open Go.ChangeShapes Go.WideShapes Go.ChangeAt Go.RowKit

theorem Try.info5 : (Try.prog.info? 5).map (fun i => (i.zero, i.size, i.bytes)) = some (some (.int .u8 0), 1, 1) := by kernel_rfl
theorem Try.size5 : (Try.prog.info? 5).map (·.size) = some 1 := by kernel_rfl

/-- The bytes zs lie in memory from offset off of block b on. -/
def Row (w : World) (b off n : Nat) (zs : List Int) : Prop := zs.length = n ∧ ∀ k, k < n → w.cell? ⟨b, off + k, none⟩ = some (.int .u8 (zs.getD k 0))

theorem Row.byteAt {w : World} {b off n : Nat} {zs : List Int} (h : Row w b off n zs) {k : Nat} (hk : k < n) : ∃ z, w.cell? ⟨b, off + k, none⟩ = some (.int .u8 z) ∧ Hid (zs.getD k 0 = z) := ⟨_, h.2 k hk, rfl⟩
theorem ne_bool {a b : Int} (h : a ≠ b) : (a == b) = false := by simpa using h
theorem ret_int {k : IntKind} {a b : Int} (h : a = b) : Ending.returned (.int k a) = .returned (.int k b) := by rw [h]
theorem getD_drop (zs : List Int) (i k : Nat) : (zs.drop i).getD k 0 = zs.getD (i + k) 0 := by
  simp [List.getD_eq_getElem?_getD, List.getElem?_drop]

theorem Row.drop {w : World} {b n : Nat} {zs : List Int} (h : Row w b 0 n zs) {i : Nat} (hi : i ≤ n) : Row w b i (n - i) (zs.drop i) := by
  refine ⟨by rw [List.length_drop, h.1], fun k hk => ?_⟩
  rw [getD_drop, ← h.2 (i + k) (by omega), Nat.zero_add]
theorem Row.take {w : World} {b off n : Nat} {zs : List Int} (h : Row w b off n zs) {r : Nat} (hr : r ≤ n) : Row w b off r (zs.take r) := by
  refine ⟨by rw [List.length_take, h.1]; omega, fun k hk => ?_⟩
  rw [h.2 k (by omega)]
  congr 2
  rw [List.getD_eq_getElem?_getD, List.getD_eq_getElem?_getD, List.getElem?_take, if_pos hk]

/-- The cells of a row of bytes. -/
def bytesOf (zs : List Int) : List Value := zs.map (Value.int .u8)
theorem length_bytesOf (zs : List Int) : (bytesOf zs).length = zs.length := by simp [bytesOf]
theorem oneCell_bytesOf (zs : List Int) : ∀ v ∈ bytesOf zs, v.oneCell' = true := by
  intro v hv
  simp only [bytesOf, List.mem_map] at hv
  obtain ⟨z, _, rfl⟩ := hv
  rfl
theorem get_bytesOf {zs : List Int} {j : Nat} {v : Value} (h : (bytesOf zs)[j]? = some v) : j < zs.length ∧ v = .int .u8 (zs.getD j 0) := by
  rw [bytesOf, List.getElem?_map] at h
  obtain ⟨z, hz, rfl⟩ := Option.map_eq_some_iff.1 h
  have hj := (List.getElem?_eq_some_iff.1 hz).1
  exact ⟨hj, by rw [List.getD_eq_getElem?_getD, hz]; rfl⟩

theorem row_of_block {w : World} {g : Nat} {t : TypeId} {zs : List Int} {n : Nat} (hn : zs.length = n) (h : w.heap[g]? = some (.cells (bytesOf zs).toArray t (0, 0))) : Row w g 0 n zs := by
  refine ⟨hn, fun k hk => ?_⟩
  subst hn
  simp only [World.cell?, h]
  simp [bytesOf, List.getD_eq_getElem?_getD, List.getElem?_eq_getElem hk]

theorem splice_all {α : Type} (Z X : List α) (h : Z.length = X.length) : splice Z 0 X = X := by
  unfold splice
  rw [List.drop_eq_nil_of_le (by omega)]
  simp

/-- 'zzc := make([]byte, len(text)); copy(zzc, text)': the copy, behind the make: as a law for the walk. -/
theorem copy_fresh {w0 : World} {ops : Array Oper} {rest : List Oper} {o : Oper} {a : Act} {Q : Exit → Act → World → Prop} (hgd : o.guard = none) (d s : Operand)
    (ho : o.op = .call { callee := .builtin .copy, args := #[d, s], argTypes := #[22, 22] }) (x : Addr) (n cap : Nat)
    (hd : a.eval d = .slice (some ⟨w0.heap.size, 0, none⟩) n n) (hs : a.eval s = .slice (some x) n cap)
    (Z : List Int) (hZ : Hid (Z.length = n)) (hx : Hid (∀ k, k < n → w0.cell? (x.add k) = some (.int .u8 (Z.getD k 0))))
    (h : ∀ w', Row w' w0.heap.size 0 n Z → Below w0.heap.size w0 w' → w0.heap.size < w'.heap.size → wpList Try.prog ops Q rest (a.put o.dst (goInt n)) w') :
    wpList Try.prog ops Q (o :: rest) a (w0.alloc (.cells (madeCells #[.int .u8 0] n) 5)) := by
  have hlen : (bytesOf Z).length = n := by rw [length_bytesOf, hZ.out]
  have hb0 : Below w0.heap.size w0 (w0.alloc (.cells (madeCells #[.int .u8 0] n) 5)) := (Below.refl _ _).alloc (Nat.le_refl _) _
  refine wpList_copy_splice hgd d s 22 22 ho 5 Try.underlying22 Try.size5 _ _ n n n cap hd hs w0.heap.size 0 (madeCells #[.int .u8 0] n).toList 5 ?_ (bytesOf Z) ?_ ?_ ?_ (oneCell_bytesOf Z) w0.heap.size w0 hb0 (Nat.le_refl _) ?_
  · show (w0.heap.push _)[w0.heap.size]? = _
    simp
  · rw [hlen]; exact (Nat.min_self n).symm
  · intro _
    refine ⟨rfl, x, rfl, fun j v hv => ?_⟩
    obtain ⟨hj, rfl⟩ := get_bytesOf hv
    rw [hZ.out] at hj
    exact cell_later hb0 (hx.out j hj)
  · rw [hlen]; simp [size_madeCells]
  · intro w' HG hB
    have hsp : splice (madeCells #[Value.int .u8 0] n).toList 0 (bytesOf Z) = bytesOf Z := splice_all _ _ (by rw [hlen]; simp [size_madeCells])
    have hblk := HG.out
    rw [hsp] at hblk
    rw [hlen]
    refine h w' (row_of_block hZ.out hblk) hB ?_
    exact (Array.getElem?_eq_some_iff.1 hblk).1
end Go.Proofs.Qxb6619262a
