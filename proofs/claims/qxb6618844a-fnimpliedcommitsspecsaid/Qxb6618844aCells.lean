/-
  ROWS OF MEMORY: the blocks that the calls make, as lists: bools, ints, operations (five cells each), outcomes (two cells each); what a cell of them holds, what a store does to them.
-/
import Derived.Test.Qxb6618844aRows
import Derived.WalkKit
import Derived.WalkSpells
import Derived.WalkLawsBesides
set_option linter.unusedSimpArgs false
set_option linter.unusedVariables false
namespace Go.Proofs.Qxb6618844a
open Go.RowKit

theorem hide {p : Prop} (h : p) : Hid p := h
theorem unhide {p : Prop} (h : Hid p) : p := h
theorem ret_int {k : IntKind} {a b : Int} (h : a = b) : Ending.returned (.int k a) = .returned (.int k b) := by rw [h]

/-- One operation as its five cells hold it. -/
structure OpV where
  kind : Int
  txn : ByteArray
  site : Int
  sg : Bool
  ia : Option Addr
  il : Nat
  ic : Nat

def OpV.cells (o : OpV) : List Value := [.int .i64 o.kind, .string o.txn, .int .i64 o.site, .bool o.sg, .slice o.ia o.il o.ic]
def OpV.val (o : OpV) : Value := .agg #[.int .i64 o.kind, .string o.txn, .int .i64 o.site, .bool o.sg, .slice o.ia o.il o.ic]

/-- Block b of w holds just these cells, and may be written. -/
def Block (w : World) (b : Nat) (cs : Array Value) (t : TypeId) : Prop := w.heap[b]? = some (.cells cs t (0, 0))

theorem Block.lt {w : World} {b : Nat} {cs : Array Value} {t : TypeId} (h : Block w b cs t) : b < w.heap.size := by
  rcases Nat.lt_or_ge b w.heap.size with h' | h'
  · exact h'
  · unfold Block at h; rw [Array.getElem?_eq_none h'] at h; cases h
theorem Block.cell {w : World} {b : Nat} {cs : Array Value} {t : TypeId} (h : Block w b cs t) (j : Nat) : w.cell? ⟨b, j, none⟩ = cs[j]? := cell_of_row w b j cs t (0, 0) h
theorem Block.frozen {w : World} {b : Nat} {cs : Array Value} {t : TypeId} (h : Block w b cs t) (j : Nat) : w.frozen? ⟨b, j, none⟩ = false := frozen_of_row w b j cs t h
theorem Block.set {w : World} {b : Nat} {cs : Array Value} {t : TypeId} (h : Block w b cs t) (j : Nat) (v : Value) : Block (w.setCell ⟨b, j, none⟩ v) b (cs.setIfInBounds j v) t := heap_setCell_same w b j cs t v h
theorem Block.other {w : World} {b : Nat} {cs : Array Value} {t : TypeId} (h : Block w b cs t) {a : Addr} (v : Value) (hne : b ≠ a.block) : Block (w.setCell a v) b cs t := (heap_setCell_other w a b v hne).trans h
theorem Block.below {w w' : World} {b B : Nat} {cs : Array Value} {t : TypeId} (h : Block w b cs t) (hb : Below B w w') (hlt : b < B) : Block w' b cs t := (hb.block b hlt).trans h
theorem Block.drewN {w : World} {b : Nat} {cs : Array Value} {t : TypeId} (h : Block w b cs t) (q : Nat) : Block (w.drewN q) b cs t := h
theorem Block.alloc {w : World} {b : Nat} {cs : Array Value} {t : TypeId} (h : Block w b cs t) (o : Obj) : Block (w.alloc o) b cs t := (heap_alloc_old w o h.lt).trans h
theorem Block.new (w : World) (cs : Array Value) (t : TypeId) : Block (w.alloc (.cells cs t)) w.heap.size cs t := heap_alloc_new w _

theorem below_drewN {B : Nat} {a w : World} (h : Below B a w) (q : Nat) : Below B a (w.drewN q) := ⟨h.os, h.tape, h.output, h.size, h.block⟩

/-! ### the four kinds of rows -/
def rowB (bs : List Bool) : Array Value := (bs.map Value.bool).toArray
def rowI (zs : List Int) : Array Value := (zs.map (Value.int .i64)).toArray
def rowO (os : List OpV) : Array Value := (os.flatMap OpV.cells).toArray

theorem rowB_at (bs : List Bool) (j : Nat) (h : j < bs.length) : (rowB bs)[j]? = some (.bool (bs.getD j false)) := by
  simp [rowB, List.getD, h]
theorem rowI_at (zs : List Int) (j : Nat) (h : j < zs.length) : (rowI zs)[j]? = some (.int .i64 (zs.getD j 0)) := by
  simp [rowI, List.getD, h]
theorem rowB_set (bs : List Bool) (j : Nat) (b : Bool) : (rowB bs).setIfInBounds j (.bool b) = rowB (bs.set j b) := by
  simp [rowB, List.map_set]
theorem rowI_set (zs : List Int) (j : Nat) (z : Int) : (rowI zs).setIfInBounds j (.int .i64 z) = rowI (zs.set j z) := by
  simp [rowI, List.map_set]

theorem flat_at {α : Type} (f : α → List Value) (m : Nat) (hm : ∀ x, (f x).length = m) : ∀ (xs : List α) (k j : Nat) (x : α), xs[k]? = some x → j < m → (xs.flatMap f)[k * m + j]? = (f x)[j]?
  | [], k, j, x, h, _ => by simp at h
  | y :: ys, 0, j, x, h, hj => by
    simp at h
    subst h
    rw [List.flatMap_cons, Nat.zero_mul, Nat.zero_add, List.getElem?_append_left (by rw [hm]; exact hj)]
  | y :: ys, k + 1, j, x, h, hj => by
    rw [List.flatMap_cons, List.getElem?_append_right (by rw [hm, Nat.add_mul]; omega), hm]
    rw [show (k + 1) * m + j - m = k * m + j by rw [Nat.add_mul]; omega]
    exact flat_at f m hm ys k j x (by simpa using h) hj
theorem OpV.cells_len (o : OpV) : o.cells.length = 5 := rfl
theorem rowO_at (os : List OpV) (k j : Nat) (o : OpV) (h : os[k]? = some o) (hj : j < 5) : (rowO os)[k * 5 + j]? = o.cells[j]? := by
  unfold rowO
  rw [List.getElem?_toArray]
  exact flat_at OpV.cells 5 OpV.cells_len os k j o h hj
/-- What the five cells of operation k hold. -/
theorem Block.op {w : World} {b : Nat} {os : List OpV} {t : TypeId} (h : Block w b (rowO os) t) (k : Nat) (o : OpV) (ho : os[k]? = some o) :
    w.cell? ⟨b, k * 5, none⟩ = some (.int .i64 o.kind) ∧ w.cell? ⟨b, k * 5 + 1, none⟩ = some (.string o.txn) ∧ w.cell? ⟨b, k * 5 + 2, none⟩ = some (.int .i64 o.site) ∧ w.cell? ⟨b, k * 5 + 3, none⟩ = some (.bool o.sg) ∧ w.cell? ⟨b, k * 5 + 4, none⟩ = some (.slice o.ia o.il o.ic) :=
  ⟨(h.cell _).trans (rowO_at os k 0 o ho (by omega)), (h.cell _).trans (rowO_at os k 1 o ho (by omega)), (h.cell _).trans (rowO_at os k 2 o ho (by omega)), (h.cell _).trans (rowO_at os k 3 o ho (by omega)), (h.cell _).trans (rowO_at os k 4 o ho (by omega))⟩

end Go.Proofs.Qxb6618844a
