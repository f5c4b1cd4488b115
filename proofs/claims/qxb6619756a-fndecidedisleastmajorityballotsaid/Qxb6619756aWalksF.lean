/-
  THE WALKS of the bounds on the lengths (7, 10); what 'make' lays; the argument as the walks want it.
-/
import Derived.Test.Qxb6619756aWalksE
import Derived.Laws.CopyRow
import Derived.Deep.WholeRow
set_option linter.unusedSimpArgs false
set_option linter.unusedVariables false
namespace Go.Proofs.Qxb6619756a
open Go.RowKit

def lim (n m : Nat) : Bool := decide (n + m ≤ 1048576)

set_option maxHeartbeats 1000000 in
theorem bytes7 (a0 a1 : Option Addr) (n c0 m c1 : Nat) (w : World) (hn : n ≤ 9223372036854775807) (hm : m ≤ 9223372036854775807) :
    Calls Try.prog 7 #[.slice a0 n c0, .slice a1 m c1] w fun e w' => e = .returned (.bool (lim n m)) ∧ w' = w := by
  by_cases h : n + m ≤ 1048576
  · have e : lim n m = true := by simp [lim, h]
    have h1 : ¬ (1048576 : Int) < (n : Int) := by omega
    have h2 : ¬ (1048576 : Int) < (m : Int) := by omega
    have h3 : ¬ (1048576 : Int) < (n : Int) + (m : Int) := by omega
    rw [e]
    clear e
    go_enter Try.func7, Try.ntmps7
    go_wp2
    go_ret
    exact ⟨rfl, rfl⟩
  · have e : lim n m = false := by simp [lim, h]
    have h' : ¬ ((n : Int) ≤ 1048576 ∧ (m : Int) ≤ 1048576 ∧ (n : Int) + (m : Int) ≤ 1048576) := by omega
    rw [e]
    clear e
    go_enter Try.func7, Try.ntmps7
    go_wp2
    all_goals first
      | (exfalso; omega)
      | (go_ret; exact ⟨rfl, rfl⟩)

set_option maxHeartbeats 1000000 in
theorem bytes10 (a0 a1 : Option Addr) (n c0 m c1 : Nat) (v : Int) (w : World) (hn : n ≤ 9223372036854775807) (hm : m ≤ 9223372036854775807) :
    Calls Try.prog 10 #[.slice a0 n c0, .slice a1 m c1, .int .u8 v] w fun e w' => e = .returned (.bool (lim n m)) ∧ w' = w := by
  by_cases h : n + m ≤ 1048576
  · have e : lim n m = true := by simp [lim, h]
    have h1 : ¬ (1048576 : Int) < (n : Int) := by omega
    have h2 : ¬ (1048576 : Int) < (m : Int) := by omega
    have h3 : ¬ (1048576 : Int) < (n : Int) + (m : Int) := by omega
    rw [e]
    clear e
    go_enter Try.func10, Try.ntmps10
    go_wp2
    go_ret
    exact ⟨rfl, rfl⟩
  · have e : lim n m = false := by simp [lim, h]
    have h' : ¬ ((n : Int) ≤ 1048576 ∧ (m : Int) ≤ 1048576 ∧ (n : Int) + (m : Int) ≤ 1048576) := by omega
    rw [e]
    clear e
    go_enter Try.func10, Try.ntmps10
    go_wp2
    all_goals first
      | (exfalso; omega)
      | (go_ret; exact ⟨rfl, rfl⟩)

theorem info28 : (Try.prog.info? 28).map (fun i => (i.zero, i.size, i.bytes)) = some (some (.int .u64 0), 1, 8) := by kernel_rfl
theorem info5 : (Try.prog.info? 5).map (fun i => (i.zero, i.size, i.bytes)) = some (some (.int .u8 0), 1, 1) := by kernel_rfl
theorem size28 : (Try.prog.info? 28).map (·.size) = some 1 := by kernel_rfl
theorem size5 : (Try.prog.info? 5).map (·.size) = some 1 := by kernel_rfl
theorem made_row (k : IntKind) (n : Nat) : madeCells (Value.int k 0).cells n = rowK k (List.replicate n 0) := by
  apply Array.ext'
  rw [show (Value.int k 0).cells = #[Value.int k 0] from rfl, toList_madeCells_one]
  simp [rowK]
theorem mkU (n : Nat) (hn : n ≤ 4097) (W : World) : (Instr.makeSlice 22 (.int .i64 (n : Int)) (.int .i64 (n : Int))).run Try.prog W = .ok (.slice (some ⟨W.heap.size, 0, none⟩) n n) (W.alloc (.cells (rowK .u64 (List.replicate n 0)) 28)) := by
  obtain ⟨i, hi, hz, hs, hb⟩ := info_parts info28
  have h := run_make (P := Try.prog) W 22 28 i _ Try.underlying22 hi hz .i64 .i64 (n : Int) (n : Int) (by omega) (Int.le_refl _) (by rw [hb]; omega) (by omega)
  rw [Int.toNat_natCast, hs, Nat.mul_one, made_row] at h
  exact h
theorem mkV (n : Nat) (hn : n ≤ 4097) (W : World) : (Instr.makeSlice 23 (.int .i64 (n : Int)) (.int .i64 (n : Int))).run Try.prog W = .ok (.slice (some ⟨W.heap.size, 0, none⟩) n n) (W.alloc (.cells (rowK .u8 (List.replicate n 0)) 5)) := by
  obtain ⟨i, hi, hz, hs, hb⟩ := info_parts info5
  have h := run_make (P := Try.prog) W 23 5 i _ Try.underlying23 hi hz .i64 .i64 (n : Int) (n : Int) (by omega) (Int.le_refl _) (by rw [hb]; omega) (by omega)
  rw [Int.toNat_natCast, hs, Nat.mul_one, made_row] at h
  exact h

/-- WHAT THE WALK IS TOLD OF A SLICE OF INTEGERS THAT CAME IN. -/
def ArgK (w : World) (k : IntKind) (a : Option Addr) (n c : Nat) (zs : List Int) : Prop :=
  zs.length = n ∧ n ≤ 9223372036854775807 ∧ (a = none → n = 0 ∧ c = 0) ∧ ∀ x, a = some x → ∀ j z, zs[j]? = some z → w.cell? (x.add j) = some (.int k z)
theorem ArgK.below {w w' : World} {k : IntKind} {a : Option Addr} {n c : Nat} {zs : List Int} (h : ArgK w k a n c zs) (hb : Below w.heap.size w w') : ArgK w' k a n c zs := by
  obtain ⟨h1, h2, h3, h4⟩ := h
  refine ⟨h1, h2, h3, fun x hx j z hz => ?_⟩
  have hc := h4 x hx j z hz
  exact (hb.cell (block_lt_of_cell hc)).trans hc

theorem row_list (k : IntKind) (zs : List Int) : (rowK k zs).toList = zs.map (Value.int k) := by simp [rowK]
theorem one_ints (k : IntKind) (zs : List Int) : ∀ v ∈ zs.map (Value.int k), v.oneCell' = true := ints_oneCell k zs
/-- The source's cells, also behind a new block. -/
theorem src_ints {w : World} {k : IntKind} {zs : List Int} {x : Addr} (h : ∀ j z, zs[j]? = some z → w.cell? (x.add j) = some (.int k z)) :
    ∀ (o : Obj) (j : Nat) (v : Value), (zs.map (Value.int k))[j]? = some v → (w.alloc o).cell? (x.add j) = some v := by
  intro o j v hv
  rw [List.getElem?_map] at hv
  obtain ⟨z, hz, rfl⟩ := Option.map_eq_some_iff.1 hv
  have hc := h j z hz
  exact (((Below.refl w.heap.size w).alloc (Nat.le_refl _) o).cell (block_lt_of_cell hc)).trans hc
/-- 'copy(zzc, xs)' of a whole argument into what 'make' has just laid. -/
theorem copy_all (k : IntKind) (T e ty : TypeId) (hu : Try.prog.underlying T = some (.slice e)) (hs : (Try.prog.info? e).map (·.size) = some 1) (x : Addr) (n c : Nat) (zs : List Int) (w : World) (hl : zs.length = n)
    (h : ∀ j z, zs[j]? = some z → w.cell? (x.add j) = some (.int k z)) :
    (Builtin.copy_ #[T, T] ty #[.slice (some ⟨w.heap.size, 0, none⟩) n n, .slice (some x) n c]).run Try.prog (w.alloc (.cells (rowK k (List.replicate n 0)) e)) = .ok (.int .i64 n) (w.alloc (.cells (rowK k zs) e)) := by
  have hr := run_copy_row (P := Try.prog) (w.alloc (.cells (rowK k (List.replicate n 0)) e)) T T ty e w.heap.size 0 n n x n c (rowK k (List.replicate n 0)) e (zs.map (Value.int k)) hu hs (Block.new w _ e)
    (by rw [List.length_map, hl]; exact (Nat.min_self n).symm) (src_ints h _) (by simp [rowK, hl]) (one_ints k zs)
  rw [hr, World.setRow_alloc_new, List.length_map, hl]
  congr 2
  unfold rowK
  rw [List.take_zero, List.nil_append, List.drop_of_length_le (by simp), List.append_nil]

end Go.Proofs.Qxb6619756a
