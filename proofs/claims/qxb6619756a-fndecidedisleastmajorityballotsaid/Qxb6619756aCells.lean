/-
  ROWS OF MEMORY: the blocks that the calls make, as lists of integers of one kind.
-/
import Derived.Test.Qxb6619756aRows
import Derived.WalkKit
import Derived.WalkSpells
import Derived.WalkLawsBesides
set_option linter.unusedSimpArgs false
set_option linter.unusedVariables false
namespace Go.Proofs.Qxb6619756a
open Go.RowKit

theorem hide {p : Prop} (h : p) : Hid p := h
theorem unhide {p : Prop} (h : Hid p) : p := h

/-- Block b of w holds just these cells, and may be written. -/
def Block (w : World) (b : Nat) (cs : Array Value) (t : TypeId) : Prop := w.heap[b]? = some (.cells cs t (0, 0))

theorem Block.lt {w : World} {b : Nat} {cs : Array Value} {t : TypeId} (h : Block w b cs t) : b < w.heap.size := by
  rcases Nat.lt_or_ge b w.heap.size with h' | h'
  · exact h'
  · unfold Block at h; rw [Array.getElem?_eq_none h'] at h; cases h
theorem Block.cell {w : World} {b : Nat} {cs : Array Value} {t : TypeId} (h : Block w b cs t) (j : Nat) : w.cell? ⟨b, j, none⟩ = cs[j]? := cell_of_row w b j cs t (0, 0) h
theorem Block.frozen {w : World} {b : Nat} {cs : Array Value} {t : TypeId} (h : Block w b cs t) (j : Nat) : w.frozen? ⟨b, j, none⟩ = false := frozen_of_row w b j cs t h
theorem Block.set {w : World} {b : Nat} {cs : Array Value} {t : TypeId} (h : Block w b cs t) (j : Nat) (v : Value) : Block (w.setCell ⟨b, j, none⟩ v) b (cs.setIfInBounds j v) t := heap_setCell_same w b j cs t v h
theorem Block.other {w : World} {b : Nat} {cs : Array Value} {t : TypeId} (h : Block w b cs t) {a : Addr} (v : Value) (hne : b ≠ a.block) : Block (w.setCell a v) b cs t := (heap_setCell_other w a b v hne).trans h
theorem Block.below {w w' : World} {b B : Nat} {cs : Array Value} {t : TypeId} (h : Block w b cs t) (hb : Below B w w') (hlt : b < B) : Block w' b cs t := (hb.block b hlt).trans h
theorem Block.drewN {w : World} {b : Nat} {cs : Array Value} {t : TypeId} (h : Block w b cs t) (q : Nat) : Block (w.drewN q) b cs t := h
theorem Block.alloc {w : World} {b : Nat} {cs : Array Value} {t : TypeId} (h : Block w b cs t) (o : Obj) : Block (w.alloc o) b cs t := (heap_alloc_old w o h.lt).trans h
theorem Block.new (w : World) (cs : Array Value) (t : TypeId) : Block (w.alloc (.cells cs t)) w.heap.size cs t := heap_alloc_new w _
theorem below_drewN {B : Nat} {a w : World} (h : Below B a w) (q : Nat) : Below B a (w.drewN q) := ⟨h.os, h.tape, h.output, h.size, h.block⟩

def rowK (k : IntKind) (zs : List Int) : Array Value := (zs.map (Value.int k)).toArray
theorem rowK_at (k : IntKind) (zs : List Int) (j : Nat) (h : j < zs.length) : (rowK k zs)[j]? = some (.int k (zs.getD j 0)) := by
  simp [rowK, List.getD, h]
theorem rowK_some (k : IntKind) (zs : List Int) (j : Nat) (z : Int) (h : zs[j]? = some z) : (rowK k zs)[j]? = some (.int k z) := by
  simp [rowK, h]
theorem rowK_set (k : IntKind) (zs : List Int) (j : Nat) (z : Int) : (rowK k zs).setIfInBounds j (.int k z) = rowK k (zs.set j z) := by
  simp [rowK, List.map_set]
theorem Block.setK {w : World} {b : Nat} {k : IntKind} {zs : List Int} {t : TypeId} (h : Block w b (rowK k zs) t) (j : Nat) (x : Int) : Block (w.setCell ⟨b, j, none⟩ (.int k x)) b (rowK k (zs.set j x)) t := by
  have := h.set j (.int k x)
  rwa [rowK_set] at this

/-- A row that is filled from the left. -/
theorem fill_at {α : Type} (xs : List α) (z : α) (n k : Nat) (hl : xs.length = n) (hk : k < n) : (xs.take k ++ List.replicate (n - k) z)[k]? = some z := by
  have h1 : (xs.take k).length = k := by rw [List.length_take]; omega
  rw [List.getElem?_append_right (by omega), h1, Nat.sub_self, List.getElem?_replicate, if_pos (by omega)]
theorem fill_set {α : Type} (xs : List α) (z x : α) (n k : Nat) (hl : xs.length = n) (hk : k < n) (hx : xs[k]? = some x) : (xs.take k ++ List.replicate (n - k) z).set k x = xs.take (k + 1) ++ List.replicate (n - (k + 1)) z := by
  have h1 : (xs.take k).length = k := by rw [List.length_take]; omega
  rw [List.set_append_right _ _ (by omega), h1, Nat.sub_self, show n - k = (n - (k + 1)) + 1 by omega, List.replicate_succ, List.set_cons_zero, List.take_add_one, hx]
  simp
theorem fill_all {α : Type} (xs : List α) (z : α) (n k : Nat) (hl : xs.length = n) (hk : n ≤ k) : xs.take k ++ List.replicate (n - k) z = xs := by
  rw [List.take_of_length_le (by omega), show n - k = 0 by omega]
  simp

end Go.Proofs.Qxb6619756a
