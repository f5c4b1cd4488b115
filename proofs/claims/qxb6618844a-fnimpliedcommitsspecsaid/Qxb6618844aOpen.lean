/-
  FROM THE ROW's READING OF AN ARGUMENT TO WHAT THE WALKS ARE TOLD: operations, slices of operations.
-/
import Derived.Test.Qxb6618844aWalksH
import Derived.ProofKit
import Derived.OpenShut
import Derived.ShutString
import Derived.ChangeOld
import Derived.Below
set_option linter.unusedVariables false
namespace Go.Proofs.Qxb6618844a
open Go.ChangeShapes Go.WideShapes Go.ChangeAt Go.RowKit

theorem own : ownKnob Try.prog.godebug = none := by kernel_rfl
theorem laidOut : laidOutB Try.prog = true := by kernel_rfl
theorem cells3 : Try.prog.cellsOf 3 = 1 := by kernel_rfl
theorem cells4 : Try.prog.cellsOf 4 = 1 := by kernel_rfl
theorem cells9 : Try.prog.cellsOf 9 = 1 := by kernel_rfl
theorem cells23 : Try.prog.cellsOf 23 = 1 := by kernel_rfl
theorem cells25 : Try.prog.cellsOf 25 = 5 := by kernel_rfl

theorem spot_none {w : World} {a : Addr} {v : Value} (h : w.cell? a = some v) : a = ⟨a.block, a.off, none⟩ := by
  obtain ⟨b, o, sp⟩ := a
  cases sp with
  | none => rfl
  | some x =>
    unfold World.cell? at h
    split at h <;> simp at h

section
variable {H : Type} {enc : TypeId × Value → H} {W : World} {base : Nat} {sp : Nat → Bool} {held : Bool}

/-- A slice of strings: as the walks want it. -/
theorem items_of_trod {fuel : Nat} {cs : List Value} {x : DataW H × List MemPlace} (h : DataW.trod enc Try.prog W base sp held fuel 23 cs = some x) :
    ∃ ia il ic, cs = [.slice ia il ic] ∧ il ≤ 9223372036854775807 ∧ (il = 0 ∨ ∃ ib io, ia = some ⟨ib, io, none⟩ ∧ ∀ j, j < il → ∃ s : ByteArray, W.cell? ⟨ib, io + j, none⟩ = some (.string s) ∧ s.size ≤ 9223372036854775807) := by
  rcases DataW.trod_slice Try.underlying23 h with ⟨rfl, _⟩ | ⟨a, len, cap, el, rs, m, rfl, rfl, _, _, hlc, hcm, hel, helem, _, _⟩
  · exact ⟨none, 0, 0, rfl, by omega, .inl rfl⟩
  · refine ⟨some a, len, cap, rfl, by unfold maxLen at hcm; omega, ?_⟩
    have hs : ∀ j, j < len → ∃ s : ByteArray, W.cell? (a.add j) = some (.string s) ∧ s.size ≤ 9223372036854775807 := by
      intro j hj
      have h1 := helem j hj
      rw [cells9, Nat.mul_one, List.getElem?_eq_getElem (by omega)] at h1
      obtain ⟨c, hc, ht⟩ := Option.bind_eq_some_iff.1 h1
      obtain ⟨s, rfl, _, hsz⟩ := DataW.trod_string Try.underlying9 ht
      obtain ⟨_, _, hcell⟩ := World.cells?_some hc
      have h2 := hcell 0 (by omega)
      refine ⟨s, ?_, by unfold maxLen at hsz; omega⟩
      simpa [Addr.add] using h2
    by_cases hz : len = 0
    · exact .inl hz
    · right
      obtain ⟨s0, h0, _⟩ := hs 0 (by omega)
      have e := spot_none (a := a) (by simpa [Addr.add] using h0)
      refine ⟨a.block, a.off, by rw [← e], fun j hj => ?_⟩
      obtain ⟨s, h1, h2⟩ := hs j hj
      rw [e, Addr.add_lit] at h1
      exact ⟨s, h1, h2⟩

/-- An operation's five cells. -/
theorem op_of_trod {fuel : Nat} {cs : List Value} {x : DataW H × List MemPlace} (h : DataW.trod enc Try.prog W base sp held fuel 25 cs = some x) : ∃ o : OpV, cs = o.cells ∧ ItemsOK W o := by
  obtain ⟨xs, n, rfl, hx, hl, hxl, hall⟩ := DataW.trod_struct Try.underlying25 h
  rw [cells25] at hl
  match cs, hl with
  | [c0, c1, c2, c3, c4], _ =>
    match xs, hxl with
    | [x0, x1, x2, x3, x4], _ =>
      have f0 : DataW.trod enc Try.prog W base sp held n 3 (([c0, c1, c2, c3, c4].drop 0).take (Try.prog.cellsOf 3)) = some x0 := hall 0 _ rfl
      have f1 : DataW.trod enc Try.prog W base sp held n 9 (([c0, c1, c2, c3, c4].drop 1).take (Try.prog.cellsOf 9)) = some x1 := hall 1 _ rfl
      have f2 : DataW.trod enc Try.prog W base sp held n 3 (([c0, c1, c2, c3, c4].drop 2).take (Try.prog.cellsOf 3)) = some x2 := hall 2 _ rfl
      have f3 : DataW.trod enc Try.prog W base sp held n 4 (([c0, c1, c2, c3, c4].drop 3).take (Try.prog.cellsOf 4)) = some x3 := hall 3 _ rfl
      have f4 : DataW.trod enc Try.prog W base sp held n 23 (([c0, c1, c2, c3, c4].drop 4).take (Try.prog.cellsOf 23)) = some x4 := hall 4 _ rfl
      rw [cells3] at f0 f2
      rw [cells9] at f1
      rw [cells4] at f3
      rw [cells23] at f4
      obtain ⟨kind, e0, _, _⟩ := DataW.trod_int Try.underlying3 f0
      obtain ⟨txn, e1, _, hts⟩ := DataW.trod_string Try.underlying9 f1
      obtain ⟨site, e2, _, _⟩ := DataW.trod_int Try.underlying3 f2
      obtain ⟨sg, e3, _⟩ := DataW.trod_bool Try.underlying4 f3
      obtain ⟨ia, il, ic, e4, hil, hit⟩ := items_of_trod f4
      simp at e0 e1 e2 e3 e4
      subst e0 e1 e2 e3 e4
      exact ⟨⟨kind, txn, site, sg, ia, il, ic⟩, rfl, by unfold maxLen at hts; simp only; omega, hil, hit⟩

theorem list_of {α : Type} (P : Nat → α → Prop) : ∀ n : Nat, (∀ i, i < n → ∃ x, P i x) → ∃ xs : List α, xs.length = n ∧ ∀ i x, xs[i]? = some x → P i x
  | 0, _ => ⟨[], rfl, fun i x h => by simp at h⟩
  | n + 1, h => by
    obtain ⟨xs, hl, hp⟩ := list_of P n fun i hi => h i (by omega)
    obtain ⟨x, hx⟩ := h n (by omega)
    refine ⟨xs ++ [x], by simp [hl], fun i y hy => ?_⟩
    rcases Nat.lt_trichotomy i n with hi | hi | hi
    · rw [List.getElem?_append_left (by omega)] at hy
      exact hp i y hy
    · subst hi
      rw [List.getElem?_append_right (by omega), hl] at hy
      simp at hy
      subst hy
      exact hx
    · rw [List.getElem?_eq_none (by simp; omega)] at hy
      cases hy

/-- A slice of operations. -/
theorem args_of_trod {fuel : Nat} {a : Option Addr} {len cap : Nat} {x : DataW H × List MemPlace} (h : DataW.trod enc Try.prog W base sp held fuel 22 [.slice a len cap] = some x) : ∃ os, ArgOps W a len os := by
  rcases DataW.trod_slice Try.underlying22 h with ⟨e, _⟩ | ⟨a', len', cap', el, rs, m, rfl, e, _, _, hlc, hcm, hel, helem, _, _⟩
  · simp at e
    obtain ⟨rfl, rfl, rfl⟩ := e
    exact ⟨[], rfl, by omega, .inl rfl⟩
  · simp at e
    obtain ⟨rfl, rfl, rfl⟩ := e
    have hs : ∀ k, k < len → ∃ o : OpV, ItemsOK W o ∧ ∀ j, j < 5 → W.cell? ((a'.add (k * 5)).add j) = o.cells[j]? := by
      intro k hk
      have h1 := helem k hk
      rw [cells25, List.getElem?_eq_getElem (by omega)] at h1
      obtain ⟨c, hc, ht⟩ := Option.bind_eq_some_iff.1 h1
      obtain ⟨o, rfl, ho⟩ := op_of_trod ht
      obtain ⟨_, _, hcell⟩ := World.cells?_some hc
      exact ⟨o, ho, fun j hj => hcell j hj⟩
    obtain ⟨os, hl, hp⟩ := list_of _ len hs
    refine ⟨os, hl, by unfold maxLen at hcm; omega, ?_⟩
    by_cases hz : len = 0
    · exact .inl hz
    · right
      obtain ⟨o0, ho0⟩ : ∃ o, os[0]? = some o := ⟨os[0]'(by omega), List.getElem?_eq_getElem _⟩
      have h0 := (hp 0 o0 ho0).2 0 (by omega)
      have e := spot_none (a := a') (by simpa [Addr.add, OpV.cells] using h0)
      refine ⟨a'.block, a'.off, by rw [← e], fun k o ho => ?_⟩
      obtain ⟨h1, h2⟩ := hp k o ho
      refine ⟨h1, ?_⟩
      rw [e] at h2
      have g : ∀ j, j < 5 → W.cell? ⟨a'.block, a'.off + k * 5 + j, none⟩ = o.cells[j]? := fun j hj => by
        have := h2 j hj
        rwa [Addr.add_lit, Addr.add_lit] at this
      exact ⟨g 0 (by omega), g 1 (by omega), g 2 (by omega), g 3 (by omega), g 4 (by omega)⟩
end

end Go.Proofs.Qxb6618844a
