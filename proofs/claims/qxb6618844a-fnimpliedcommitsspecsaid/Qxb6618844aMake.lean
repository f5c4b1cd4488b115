/-
  WHAT 'make' LAYS, as rows; a store of a whole operation.
-/
import Derived.Test.Qxb6618844aCells
set_option linter.unusedSimpArgs false
set_option linter.unusedVariables false
namespace Go.Proofs.Qxb6618844a
open Go.RowKit

theorem flat_len {α : Type} (f : α → List Value) (m : Nat) (hm : ∀ x, (f x).length = m) : ∀ xs : List α, (xs.flatMap f).length = xs.length * m
  | [] => by simp
  | x :: xs => by rw [List.flatMap_cons, List.length_append, hm, flat_len f m hm xs, List.length_cons, Nat.add_mul]; omega

/-- n zero elements of m cells each. -/
theorem made_flat {α : Type} (f : α → List Value) (m : Nat) (hm : ∀ x, (f x).length = m) (hp : 0 < m) (z : α) (n : Nat) :
    madeCells (f z).toArray (n * m) = ((List.replicate n z).flatMap f).toArray := by
  apply Array.ext_getElem?
  intro i
  have hR : ((List.replicate n z).flatMap f).toArray[i]? = ((List.replicate n z).flatMap f)[i]? := List.getElem?_toArray
  rw [hR]
  by_cases hi : i < n * m
  · have hq : i / m < n := by rwa [Nat.div_lt_iff_lt_mul hp]
    have hr : i % m < m := Nat.mod_lt _ hp
    have h1 := flat_at f m hm (List.replicate n z) (i / m) (i % m) z (by rw [List.getElem?_replicate, if_pos hq]) hr
    rw [show i / m * m + i % m = i by rw [Nat.mul_comm]; exact Nat.div_add_mod i m] at h1
    rw [h1]
    have hs : (f z).toArray.size = m := by simp [hm]
    simp only [madeCells, Array.getElem?_map, hs]
    rw [show (Array.range (n * m))[i]? = some i by simp [hi]]
    have hr' : i % m < (f z).length := by rw [hm]; exact hr
    simp [getElem!_pos, hr']
  · rw [Array.getElem?_eq_none (by rw [size_madeCells]; omega), List.getElem?_eq_none (by rw [flat_len f m hm, List.length_replicate]; omega)]

def zeroOp : OpV := ⟨0, ⟨#[]⟩, 0, false, none, 0, 0⟩
theorem info36 : (Try.prog.info? 36).map (fun i => (i.zero, i.size, i.bytes)) = some (some zeroOp.val, 5, 64) := by kernel_rfl
theorem info4 : (Try.prog.info? 4).map (fun i => (i.zero, i.size, i.bytes)) = some (some (.bool false), 1, 1) := by kernel_rfl
theorem info3 : (Try.prog.info? 3).map (fun i => (i.zero, i.size, i.bytes)) = some (some (.int .i64 0), 1, 8) := by kernel_rfl

/-- An outcome: where it ends, and how. -/
def outCells (x : Int × Int) : List Value := [.int .i64 x.1, .int .i64 x.2]
def rowE (xs : List (Int × Int)) : Array Value := (xs.flatMap outCells).toArray
theorem info54 : (Try.prog.info? 54).map (fun i => (i.zero, i.size, i.bytes)) = some (some (.agg #[.int .i64 0, .int .i64 0]), 2, 16) := by kernel_rfl

theorem mkO (n : Nat) (hn : n ≤ 1048577) (W : World) : (Instr.makeSlice 31 (.int .i64 (n : Int)) (.int .i64 (n : Int))).run Try.prog W = .ok (.slice (some ⟨W.heap.size, 0, none⟩) n n) (W.alloc (.cells (rowO (List.replicate n zeroOp)) 36)) := by
  obtain ⟨i, hi, hz, hs, hb⟩ := info_parts info36
  have h := run_make (P := Try.prog) W 31 36 i zeroOp.val Try.underlying31 hi hz .i64 .i64 (n : Int) (n : Int) (by omega) (Int.le_refl _) (by rw [hb]; omega) (by omega)
  rw [Int.toNat_natCast, hs] at h
  rw [h]
  have e := made_flat OpV.cells 5 OpV.cells_len (by omega) zeroOp n
  rw [show zeroOp.val.cells = (OpV.cells zeroOp).toArray from rfl, e]
  rfl
theorem mkE (n : Nat) (hn : n ≤ 1048577) (W : World) : (Instr.makeSlice 49 (.int .i64 (n : Int)) (.int .i64 (n : Int))).run Try.prog W = .ok (.slice (some ⟨W.heap.size, 0, none⟩) n n) (W.alloc (.cells (rowE (List.replicate n (0, 0))) 54)) := by
  obtain ⟨i, hi, hz, hs, hb⟩ := info_parts info54
  have h := run_make (P := Try.prog) W 49 54 i _ Try.underlying49 hi hz .i64 .i64 (n : Int) (n : Int) (by omega) (Int.le_refl _) (by rw [hb]; omega) (by omega)
  rw [Int.toNat_natCast, hs] at h
  rw [h]
  have e := made_flat outCells 2 (fun _ => rfl) (by omega) (0, 0) n
  rw [show (Value.agg #[.int .i64 0, .int .i64 0]).cells = (outCells (0, 0)).toArray from rfl, e]
  rfl
theorem mkB (n : Nat) (hn : n ≤ 1048577) (W : World) : (Instr.makeSlice 29 (.int .i64 (n : Int)) (.int .i64 (n : Int))).run Try.prog W = .ok (.slice (some ⟨W.heap.size, 0, none⟩) n n) (W.alloc (.cells (rowB (List.replicate n false)) 4)) := by
  obtain ⟨i, hi, hz, hs, hb⟩ := info_parts info4
  have h := run_make (P := Try.prog) W 29 4 i _ Try.underlying29 hi hz .i64 .i64 (n : Int) (n : Int) (by omega) (Int.le_refl _) (by rw [hb]; omega) (by omega)
  rw [Int.toNat_natCast, hs, Nat.mul_one] at h
  rw [h]
  have e : madeCells (Value.bool false).cells n = rowB (List.replicate n false) := by
    apply Array.ext'
    rw [show (Value.bool false).cells = #[Value.bool false] from rfl, toList_madeCells_one]
    simp [rowB]
  rw [e]
theorem mkI (n : Nat) (hn : n ≤ 1048577) (W : World) : (Instr.makeSlice 43 (.int .i64 (n : Int)) (.int .i64 (n : Int))).run Try.prog W = .ok (.slice (some ⟨W.heap.size, 0, none⟩) n n) (W.alloc (.cells (rowI (List.replicate n 0)) 3)) := by
  obtain ⟨i, hi, hz, hs, hb⟩ := info_parts info3
  have h := run_make (P := Try.prog) W 43 3 i _ Try.underlying43 hi hz .i64 .i64 (n : Int) (n : Int) (by omega) (Int.le_refl _) (by rw [hb]; omega) (by omega)
  rw [Int.toNat_natCast, hs, Nat.mul_one] at h
  rw [h]
  have e : madeCells (Value.int .i64 0).cells n = rowI (List.replicate n 0) := by
    apply Array.ext'
    rw [show (Value.int .i64 0).cells = #[Value.int .i64 0] from rfl, toList_madeCells_one]
    simp [rowI]
  rw [e]

theorem flat_set {α : Type} (f : α → List Value) (m : Nat) (hm : ∀ x, (f x).length = m) : ∀ (xs : List α) (k j : Nat) (x y : α) (v : Value), xs[k]? = some x → j < m → (f x).set j v = f y → (xs.flatMap f).set (k * m + j) v = (xs.set k y).flatMap f
  | [], k, j, x, y, v, h, _, _ => by simp at h
  | a :: rs, 0, j, x, y, v, h, hj, hs => by
    simp at h
    subst h
    rw [List.flatMap_cons, Nat.zero_mul, Nat.zero_add, List.set_append_left _ _ (by rw [hm]; exact hj), hs, List.set_cons_zero, List.flatMap_cons]
  | a :: rs, k + 1, j, x, y, v, h, hj, hs => by
    rw [List.flatMap_cons, List.set_append_right _ _ (by rw [hm, Nat.add_mul]; omega), hm, List.set_cons_succ, List.flatMap_cons]
    rw [show (k + 1) * m + j - m = k * m + j by rw [Nat.add_mul]; omega]
    rw [flat_set f m hm rs k j x y v (by simpa using h) hj hs]

theorem rowO_set1 (os : List OpV) (k j : Nat) (x y : OpV) (v : Value) (h : os[k]? = some x) (hj : j < 5) (hs : x.cells.set j v = y.cells) : (rowO os).setIfInBounds (k * 5 + j) v = rowO (os.set k y) := by
  unfold rowO
  rw [← flat_set OpV.cells 5 OpV.cells_len os k j x y v h hj hs]
  simp
theorem rowE_set1 (xs : List (Int × Int)) (k j : Nat) (x y : Int × Int) (v : Value) (h : xs[k]? = some x) (hj : j < 2) (hs : (outCells x).set j v = outCells y) : (rowE xs).setIfInBounds (k * 2 + j) v = rowE (xs.set k y) := by
  unfold rowE
  rw [← flat_set outCells 2 (fun _ => rfl) xs k j x y v h hj hs]
  simp
theorem rowE_at (xs : List (Int × Int)) (k j : Nat) (x : Int × Int) (h : xs[k]? = some x) (hj : j < 2) : (rowE xs)[k * 2 + j]? = (outCells x)[j]? := by
  unfold rowE
  have hR : (xs.flatMap outCells).toArray[k * 2 + j]? = (xs.flatMap outCells)[k * 2 + j]? := List.getElem?_toArray
  rw [hR]
  exact flat_at outCells 2 (fun _ => rfl) xs k j x h hj
theorem Block.setO1 {w : World} {b : Nat} {os : List OpV} {t : TypeId} {k : Nat} (x y : OpV) (h : Block w b (rowO (os.set k x)) t) (hlt : k < os.length) (j : Nat) (v : Value) (hj : j < 5) (hs : x.cells.set j v = y.cells) :
    Block (w.setCell ⟨b, k * 5 + j, none⟩ v) b (rowO (os.set k y)) t := by
  have h1 := h.set (k * 5 + j) v
  rw [rowO_set1 (os.set k x) k j x y v (by simp [hlt]) hj hs, List.set_set] at h1
  exact h1

/-- A row that is filled from the left. -/
theorem fill_at {α : Type} (xs : List α) (z : α) (n k : Nat) (hl : xs.length = n) (hk : k < n) : (xs.take k ++ List.replicate (n - k) z)[k]? = some z := by
  have h1 : (xs.take k).length = k := by rw [List.length_take]; omega
  rw [List.getElem?_append_right (by omega), h1, Nat.sub_self, List.getElem?_replicate, if_pos (by omega)]
theorem fill_set {α : Type} (xs : List α) (z x : α) (n k : Nat) (hl : xs.length = n) (hk : k < n) (hx : xs[k]? = some x) : (xs.take k ++ List.replicate (n - k) z).set k x = xs.take (k + 1) ++ List.replicate (n - (k + 1)) z := by
  have h1 : (xs.take k).length = k := by rw [List.length_take]; omega
  rw [List.set_append_right _ _ (by omega), h1, Nat.sub_self, show n - k = (n - (k + 1)) + 1 by omega, List.replicate_succ, List.set_cons_zero, List.take_add_one, hx]
  simp
theorem fill_all {α : Type} (xs : List α) (z : α) (n k : Nat) (hl : xs.length = n) (hk : n ≤ k) : xs.take k ++ List.replicate (n - k) z = xs := by
  rw [List.take_of_length_le (by omega), show n - k = 0 by omega]
  simp

/-- A whole operation stored at place k. -/
theorem Block.setOp {w : World} {b : Nat} {os : List OpV} {t : TypeId} (h : Block w b (rowO os) t) (k : Nat) (x o : OpV) (hk : os[k]? = some x) :
    Block (((((w.setCell ⟨b, k * 5, none⟩ (.int .i64 o.kind)).setCell ⟨b, k * 5 + 1, none⟩ (.string o.txn)).setCell ⟨b, k * 5 + 2, none⟩ (.int .i64 o.site)).setCell ⟨b, k * 5 + 3, none⟩ (.bool o.sg)).setCell ⟨b, k * 5 + 4, none⟩ (.slice o.ia o.il o.ic)) b (rowO (os.set k o)) t := by
  have hlt : k < os.length := by
    rcases Nat.lt_or_ge k os.length with h' | h'
    · exact h'
    · rw [List.getElem?_eq_none h'] at hk; cases hk
  have h0 : Block w b (rowO (os.set k x)) t := by
    have e : os.set k x = os := by
      apply List.ext_getElem?
      intro i
      by_cases hi : k = i
      · subst hi; rw [hk, List.getElem?_set_self hlt]
      · simp [hi]
    rw [e]; exact h
  have h1 := Block.setO1 x { x with kind := o.kind } h0 hlt 0 (.int .i64 o.kind) (by omega) rfl
  have h2 := Block.setO1 _ { x with kind := o.kind, txn := o.txn } h1 hlt 1 (.string o.txn) (by omega) rfl
  have h3 := Block.setO1 _ { x with kind := o.kind, txn := o.txn, site := o.site } h2 hlt 2 (.int .i64 o.site) (by omega) rfl
  have h4 := Block.setO1 _ { x with kind := o.kind, txn := o.txn, site := o.site, sg := o.sg } h3 hlt 3 (.bool o.sg) (by omega) rfl
  have h5 := Block.setO1 _ o h4 hlt 4 (.slice o.ia o.il o.ic) (by omega) rfl
  exact h5

end Go.Proofs.Qxb6618844a
