/-
  A ROW OF THE CALL's OWN THAT IS FILLED FROM ITS HEAD ON, a store at a time.
-/
import Derived.Test.Qxb6619262aCommon
namespace Go.Proofs.Qxb6619262a
open Go.ChangeShapes Go.WideShapes Go.ChangeAt Go.RowKit

/-- Block g is a row of bytes, as long as T, whose first k are T's. -/
def Filled (w : World) (g : Nat) (T : List Int) (k : Nat) : Prop :=
  ∃ L : List Int, L.length = T.length ∧ (∀ j, j < k → L.getD j 0 = T.getD j 0) ∧ w.heap[g]? = some (.cells (bytesOf L).toArray 5 (0, 0))

theorem madeCells_bytes (n : Nat) : madeCells #[Value.int .u8 0] n = (bytesOf (List.replicate n 0)).toArray := by
  apply Array.ext'
  simp [madeCells, bytesOf]
  apply List.ext_getElem
  · simp
  · intro i h1 h2
    simp [Nat.mod_one]

theorem filled_start (w : World) (T : List Int) (n : Nat) (hn : T.length = n) : Filled (w.alloc (.cells (madeCells #[.int .u8 0] n) 5)) w.heap.size T 0 := by
  refine ⟨List.replicate n 0, by simp [hn], fun j hj => absurd hj (by omega), ?_⟩
  show (w.heap.push _)[w.heap.size]? = _
  rw [madeCells_bytes]
  simp

/-- What the walk wants of the cell at k, to be read or written. -/
theorem Filled.cell {w : World} {g : Nat} {T : List Int} {k : Nat} (h : Filled w g T k) {j : Nat} (hj : j < T.length) :
    (∃ z, w.cell? ⟨g, j, none⟩ = some (.int .u8 z)) ∧ w.frozen? ⟨g, j, none⟩ = false := by
  obtain ⟨L, h1, _, h3⟩ := h
  refine ⟨⟨L.getD j 0, ?_⟩, ?_⟩
  · simp only [World.cell?, h3]
    simp [bytesOf, List.getD_eq_getElem?_getD, List.getElem?_eq_getElem (show j < L.length by omega)]
  · simp [World.frozen?, h3]

theorem Filled.store {w : World} {g : Nat} {T : List Int} {k : Nat} (h : Filled w g T k) (hk : k < T.length) {v : Int} (hv : T.getD k 0 = v) :
    Filled (w.setCell ⟨g, k, none⟩ (.int .u8 v)) g T (k + 1) := by
  obtain ⟨L, h1, h2, h3⟩ := h
  refine ⟨L.set k v, by simpa using h1, fun j hj => ?_, ?_⟩
  · by_cases e : j = k
    · subst e
      rw [List.getD_eq_getElem?_getD, List.getElem?_set_self (by omega), hv]; rfl
    · rw [List.getD_eq_getElem?_getD, List.getElem?_set_ne (by omega), ← List.getD_eq_getElem?_getD]
      exact h2 j (by omega)
  · have := heap_setCell_same w g k (bytesOf L).toArray 5 (.int .u8 v) h3
    rw [this]
    simp [bytesOf]

theorem Filled.whole {w : World} {g : Nat} {T : List Int} {k n : Nat} (h : Filled w g T k) (hk : T.length ≤ k) (hn : T.length = n) : Row w g 0 n T := by
  obtain ⟨L, h1, h2, h3⟩ := h
  have : L = T := by
    apply List.ext_getElem h1
    intro j ja jb
    have := h2 j (by omega)
    rw [List.getD_eq_getElem?_getD, List.getD_eq_getElem?_getD, List.getElem?_eq_getElem ja, List.getElem?_eq_getElem jb] at this
    simpa using this
  subst this
  exact row_of_block hn h3

theorem Row.below {w w' : World} {B b off n : Nat} {zs : List Int} (h : Row w b off n zs) (hb : Below B w w') (hB : b < B) : Row w' b off n zs :=
  ⟨h.1, fun k hk => by rw [hb.cell (p := ⟨b, off + k, none⟩) hB]; exact h.2 k hk⟩
end Go.Proofs.Qxb6619262a
