/-
  WHAT CAME IN, as the walks want it.
-/
import Derived.Test.Qxb6619756aWalksF
set_option linter.unusedVariables false
namespace Go.Proofs.Qxb6619756a
open Go.RowKit

/-- A slice of integers that came in: it is nil; or it leads to a row of 'cap' cells, the numbers 'zs' (the first 'len' are its elements, the rest its spare room), each fitting its kind. -/
def IsRow (k : IntKind) (w : World) (a : Option Addr) (len cap : Nat) (zs : List Int) : Prop :=
  (a = none ∧ len = 0 ∧ cap = 0 ∧ zs = []) ∨
  ∃ x, a = some x ∧ len ≤ cap ∧ cap ≤ maxLen ∧ zs.length = cap ∧ (∀ i, i < zs.length → w.cell? (x.add i) = some (.int k (zs.getD i 0))) ∧ ∀ n ∈ zs, (Lit.int k n).wf = true
theorem IsRow.arg {k : IntKind} {w : World} {a : Option Addr} {len cap : Nat} {zs : List Int} (h : IsRow k w a len cap zs) : ArgK w k a len cap (zs.take len) := by
  rcases h with ⟨rfl, rfl, rfl, rfl⟩ | ⟨x, rfl, h1, h2, h3, h4, h5⟩
  · exact ⟨rfl, by omega, fun _ => ⟨rfl, rfl⟩, fun x hx => by cases hx⟩
  · refine ⟨by rw [List.length_take]; omega, by unfold maxLen at h2; omega, fun hx => (by cases hx), fun y hy j z hz => ?_⟩
    obtain rfl := Option.some.inj hy
    have hj := (List.getElem?_eq_some_iff.1 hz).1
    rw [List.length_take] at hj
    rw [List.getElem?_take_of_lt (by omega)] at hz
    rw [h4 j (by omega), List.getD_eq_getElem?_getD, hz]
    rfl
theorem IsRow.wf {k : IntKind} {w : World} {a : Option Addr} {len cap : Nat} {zs : List Int} (h : IsRow k w a len cap zs) : ∀ z ∈ zs.take len, (Lit.int k z).wf = true := by
  intro z hz
  have hz := List.mem_of_mem_take hz
  rcases h with ⟨rfl, rfl, rfl, rfl⟩ | ⟨x, rfl, h1, h2, h3, h4, h5⟩
  · cases hz
  · exact h5 z hz

end Go.Proofs.Qxb6619756a
