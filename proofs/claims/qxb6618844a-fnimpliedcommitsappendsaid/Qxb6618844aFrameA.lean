/-
  THE FRAME: the row of FnImpliedCommitsAppend out of a walk of its function.
-/
import Derived.Test.Qxb6618844aOpen
set_option linter.unusedVariables false
namespace Go.Proofs.Qxb6618844a
open Go.ChangeShapes Go.WideShapes Go.ChangeAt Go.RowKit

/-- An operation by value. -/
theorem opVal_of {H : Type} {enc : TypeId × Value → H} {W : World} {r : Reach} {b0 base : Nat} {sp : Nat → Bool} {held : Bool} {v : Value} {d : DataW H} {p : List MemPlace} (hv : Value.okWide Try.prog W r b0 25 v) (h : DataW.Trod enc Try.prog W base sp held 25 v d p) :
    ∃ o : OpV, v = o.val ∧ ItemsOK W o := by
  obtain ⟨cs, rfl, hsz⟩ := okWide_struct Try.underlying25 hv
  obtain ⟨fuel, hf⟩ := h
  obtain ⟨o, ho, hi⟩ := op_of_trod hf
  refine ⟨o, ?_, hi⟩
  have e : cs.toList = o.cells := by simpa [Value.cells] using ho
  unfold OpV.val
  congr 1
  exact Array.toList_inj.1 e

set_option maxRecDepth 100000 in
theorem lifted3 (walk : ∀ (a : Option Addr) (n c : Nat) (os : List OpV) (o : OpV) (w : World), ArgOps w a n os → ItemsOK w o →
      Calls Try.prog 3 #[.slice a n c, o.val] w fun e w' => e = .returned (.bool true) ∧ Below w.heap.size w w')
    (os : Os) (started : os.Started) (H : Type) (enc : TypeId × Value → H) :
    ReturnsInHanded {} Try.checked os 3 .any (Rows.fnImpliedCommitsAppendSpec.pre6 enc Try.prog Try.f3 Rows.fnImpliedCommitsAppendRow.domain false) (Rows.fnImpliedCommitsAppendSpec.post enc Try.prog Try.f3 false true false false) := by
  refine returnsInHanded_of_change (C := Try.checked) own started (by kernel_rfl) Try.func3
    (ChangeSpec.witness6 (enc := enc) (C := Try.checked) false ⟨#[], #[.slice none 0 0, .agg #[.int .i64 0, .string ⟨#[]⟩, .int .i64 0, .bool false, .slice none 0 0]], []⟩ 8 (by kernel_rfl) (by kernel_rfl) (by kernel_rfl) (by kernel_rfl)) ?_
  intro W base args ds gs before hval0 hW hcnd _
  have hval : ∀ (j : Nat) t v, Try.f3.params[j]? = some t → args[j]? = some v → Value.okWide Try.prog W .any base t v := hval0
  have hW' := hW
  obtain ⟨p, q, hA0, hV, rfl, hfz, hnd⟩ := hW
  have hA : DataW.TrodAll enc Try.prog W 0 (fun _ => true) true Try.f3.params.toList args.toList ds p := hA0
  rw [Try.params3] at hA hval
  obtain ⟨v0, vs0, d0, ds0, p0, q0, hargs, rfl, rfl, h0, r0⟩ := trodAll_cons hA
  obtain ⟨v1, vs1, d1, ds1, p1, q1, rfl, rfl, rfl, h1, r1⟩ := trodAll_cons r0
  obtain ⟨rfl, rfl, rfl⟩ := trodAll_nil r1
  obtain rfl : args = #[v0, v1] := by cases args; simp_all
  obtain ⟨rfl, rfl⟩ := trodVars_none hV
  obtain ⟨a0, len0, cap0, rfl⟩ := okWide_slice Try.underlying22 (hval 0 22 v0 rfl rfl)
  have k0 := h0
  have lt0 : ∀ x ∈ p0, x.block < W.heap.size := by obtain ⟨m, hm⟩ := k0; exact DataW.trod_lt m _ _ _ hm
  obtain ⟨os0, w0⟩ : ∃ os, ArgOps W a0 len0 os := by
    obtain ⟨fuel, hf⟩ := h0
    exact args_of_trod hf
  have k1 := h1
  have lt1 : ∀ x ∈ p1, x.block < W.heap.size := by obtain ⟨m, hm⟩ := k1; exact DataW.trod_lt m _ _ _ hm
  obtain ⟨o, rfl, ho⟩ := opVal_of (hval 1 25 v1 rfl rfl) h1
  clear hA0 hval0
  refine (walk a0 len0 cap0 os0 o W w0 ho).mono fun e W' ⟨he, bel⟩ => ?_
  subst he
  exact ⟨_, rfl, _, _, _, [], _, [], hW', trodAll_mk1 (shut_bool Try.underlying4 _), (trodAll_cons_mk (Below.trod laidOut (by kernel_rfl) (of_decide_eq_true (by kernel_rfl)) k0 bel lt0) (trodAll_cons_mk (Below.trod laidOut (by kernel_rfl) (of_decide_eq_true (by kernel_rfl)) k1 bel lt1) trodAll_mk0)), rfl, bel.frame _, fun h => by cases h⟩

theorem row3 (walk : ∀ (a : Option Addr) (n c : Nat) (os : List OpV) (o : OpV) (w : World), ArgOps w a n os → ItemsOK w o →
      Calls Try.prog 3 #[.slice a n c, o.val] w fun e w' => e = .returned (.bool true) ∧ Below w.heap.size w w') : Rows.FnImpliedCommitsAppendSaid :=
  OpenClaim.holds_of_wide 3 Try.f3 rfl rfl rfl rfl rfl rfl rfl ⟨rfl, rfl, rfl, rfl, rfl⟩ rfl rfl rfl rfl rfl (by kernel_rfl) Try.func3 (by kernel_rfl)
    (of_decide_eq_true (by kernel_rfl)) (by unfold Func.isWrapper; first | (rw [if_pos (by decide +kernel)]; kernel_rfl) | (rw [if_neg (by decide +kernel)]; exact ⟨rfl, rfl⟩))
    (fun os started H enc _ => lifted3 walk os started H enc)

end Go.Proofs.Qxb6618844a
