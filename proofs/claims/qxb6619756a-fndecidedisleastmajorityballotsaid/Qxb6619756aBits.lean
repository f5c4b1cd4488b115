/-
  THE PLAIN LAW of the masks: what a set bit more does to the holders of a ballot. No Go text in sight.
-/
import Derived.Test.Qxb6619756aWalksD
set_option linter.unusedVariables false
namespace Go.Proofs.Qxb6619756a
open Go.RowKit

theorem wrap64 (z : Int) : IntKind.u64.wrap z = z % 18446744073709551616 := by
  simp [IntKind.wrap, IntKind.signed, IntKind.bits]
theorem wrap_vec (x : BitVec 64) : IntKind.u64.wrap (x.toNat : Int) = (x.toNat : Int) := by
  rw [wrap64]
  have := x.isLt
  omega
theorem bits_and (x y : Int) : bits BinOp.and .u64 x y = ((BitVec.ofInt 64 x &&& BitVec.ofInt 64 y).toNat : Int) := wrap_vec _
theorem bits_or (x y : Int) : bits BinOp.or .u64 x y = ((BitVec.ofInt 64 x ||| BitVec.ofInt 64 y).toNat : Int) := wrap_vec _
theorem vec_pow (j : Nat) : BitVec.ofInt 64 (IntKind.u64.wrap (2 ^ j)) = BitVec.twoPow 64 j := by
  apply BitVec.eq_of_toNat_eq
  rw [BitVec.toNat_ofInt, BitVec.toNat_twoPow, wrap64]
  have h : ((2 : Int) ^ j) = ((2 ^ j : Nat) : Int) := by simp
  rw [h]
  generalize 2 ^ j = x
  simp
  omega
/-- The mask's bit k. -/
theorem hasBit_vec (e : Int) (k : Nat) : hasBit e k = (BitVec.ofInt 64 e).getLsbD k := by
  unfold hasBit
  rw [bits_and, vec_pow, BitVec.and_twoPow]
  have h : (BitVec.ofInt 64 e).getLsbD (min k 64) = (BitVec.ofInt 64 e).getLsbD k := by
    by_cases hk : k ≤ 64
    · rw [Nat.min_eq_left hk]
    · rw [Nat.min_eq_right (by omega), BitVec.getLsbD_of_ge _ _ (Nat.le_refl 64), BitVec.getLsbD_of_ge _ _ (by omega)]
  rw [h]
  cases hb : (BitVec.ofInt 64 e).getLsbD k
  · simp
  · have hk : k < 64 := by
      rcases Nat.lt_or_ge k 64 with h' | h'
      · exact h'
      · rw [BitVec.getLsbD_of_ge _ _ h'] at hb; cases hb
    rw [if_pos rfl, Nat.min_eq_left (by omega), BitVec.toNat_twoPow, Nat.mod_eq_of_lt (Nat.pow_lt_pow_right (by decide) hk)]
    have : 0 < 2 ^ k := Nat.two_pow_pos k
    generalize 2 ^ k = x at *
    simp
    omega
/-- Mask e with bit k set, where k is a bit of it. -/
def mark (k : Nat) (e : Int) : Int := if k < 64 then bits BinOp.or .u64 e (IntKind.u64.wrap (2 ^ k)) else e
theorem mark_vec (k : Nat) (e : Int) (h : k < 64) : BitVec.ofInt 64 (mark k e) = BitVec.ofInt 64 e ||| BitVec.twoPow 64 k := by
  unfold mark
  rw [if_pos h, bits_or, vec_pow]
  apply BitVec.eq_of_toNat_eq
  generalize BitVec.ofInt 64 e ||| BitVec.twoPow 64 k = x
  rw [BitVec.toNat_ofInt]
  have := x.isLt
  omega
theorem hasBit_mark_low (k i : Nat) (e : Int) (h : i < k) : hasBit (mark k e) i = hasBit e i := by
  by_cases hk : k < 64
  · rw [hasBit_vec, hasBit_vec, mark_vec k e hk, BitVec.getLsbD_or, BitVec.getLsbD_twoPow]
    have : ¬ k = i := by omega
    simp [this]
  · unfold mark
    rw [if_neg hk]
theorem hasBit_mark_self (k : Nat) (e : Int) : hasBit (mark k e) k = decide (k < 64) := by
  by_cases hk : k < 64
  · rw [hasBit_vec, mark_vec k e hk, BitVec.getLsbD_or, BitVec.getLsbD_twoPow]
    simp [hk]
  · rw [hasBit_vec, BitVec.getLsbD_of_ge _ _ (by omega)]
    simp [hk]
theorem holders_mark_low (k i : Nat) (es : List Int) (h : i < k) : holders (es.map (mark k)) i = holders es i := by
  unfold holders
  rw [List.filter_map, List.length_map]
  congr 1
  apply List.filter_congr
  intro e _
  exact hasBit_mark_low k i e h
theorem maj_mark_low (k i : Nat) (es : List Int) (h : i < k) : maj (es.map (mark k)) i = maj es i := by
  unfold maj
  rw [holders_mark_low k i es h, List.length_map]
theorem maj_mark_self (k : Nat) (es : List Int) : maj (es.map (mark k)) k = decide (k < 64 ∧ 0 < es.length) := by
  unfold maj holders
  rw [List.filter_map, List.length_map, List.length_map]
  by_cases hk : k < 64
  · rw [List.filter_eq_self.2 (by intro e _; simp [hasBit_mark_self, hk])]
    by_cases h0 : 0 < es.length
    · simp [hk, h0]
    · simp [hk, h0]; omega
  · rw [List.filter_eq_nil_iff.2 (by intro e _; simp [hasBit_mark_self, hk])]
    simp [hk]

/-- WHAT THE LAW WANTS. -/
theorem after_plain (es bs : List Int) (v : Int) (n m : Nat) (hn : es.length = n) (hm : bs.length = m) (f0 s0 : Int) (h : Dec.dec (maj es) 0 0 bs = (f0, s0)) :
    Dec.dec (maj (es.map (mark m))) 0 0 (bs ++ [v]) = ((if (m < 64 ∧ 0 < n ∧ v ≠ 0 ∧ s0 = 0) ∧ f0 = 0 then v else f0), (if (m < 64 ∧ 0 < n ∧ v ≠ 0 ∧ s0 = 0) ∧ f0 ≠ 0 ∧ v ≠ f0 then v else s0)) := by
  have e := Dec.unanimous (maj es) (maj (es.map (mark m))) bs v (decide (m < 64 ∧ 0 < n)) (fun i hi => maj_mark_low m i es (by omega)) (by rw [hm, ← hn]; exact maj_mark_self m es)
  rw [e, h]
  simp only [decide_eq_true_eq, and_assoc]
/-- The same, case by case, as the law's own tests take them. -/
theorem after_cases (es bs : List Int) (v : Int) (n m : Nat) (hn : es.length = n) (hm : bs.length = m) (f0 s0 : Int) (h : Dec.dec (maj es) 0 0 bs = (f0, s0)) :
    ∃ f1 s1, Dec.dec (maj (es.map (mark m))) 0 0 (bs ++ [v]) = (f1, s1) ∧
      ((¬ (m : Int) < 64 ∧ f1 = f0 ∧ s1 = s0) ∨ ((m : Int) < 64 ∧ n = 0 ∧ f1 = f0 ∧ s1 = s0) ∨ ((m : Int) < 64 ∧ 0 < n ∧ v = 0 ∧ f1 = f0 ∧ s1 = s0)
        ∨ ((m : Int) < 64 ∧ 0 < n ∧ (v == 0) = false ∧ (s0 == 0) = false ∧ f1 = f0 ∧ s1 = s0)
        ∨ ((m : Int) < 64 ∧ 0 < n ∧ (v == 0) = false ∧ s0 = 0 ∧ f0 = 0 ∧ f1 = v ∧ s1 = 0)
        ∨ ((m : Int) < 64 ∧ 0 < n ∧ (v == 0) = false ∧ s0 = 0 ∧ (f0 == 0) = false ∧ v = f0 ∧ f1 = f0 ∧ s1 = 0)
        ∨ ((m : Int) < 64 ∧ 0 < n ∧ (v == 0) = false ∧ s0 = 0 ∧ (f0 == 0) = false ∧ (v == f0) = false ∧ f1 = f0 ∧ s1 = v)) := by
  rw [after_plain es bs v n m hn hm f0 s0 h]
  refine ⟨_, _, rfl, ?_⟩
  by_cases h1 : m < 64
  · by_cases h2 : 0 < n
    · by_cases h3 : v = 0
      · subst h3
        exact .inr (.inr (.inl ⟨by omega, h2, rfl, by simp, by simp⟩))
      · by_cases h4 : s0 = 0
        · subst h4
          by_cases h5 : f0 = 0
          · subst h5
            exact .inr (.inr (.inr (.inr (.inl ⟨by omega, h2, by simp [h3], rfl, rfl, by simp [h1, h2, h3], by simp⟩))))
          · by_cases h6 : v = f0
            · subst h6
              exact .inr (.inr (.inr (.inr (.inr (.inl ⟨by omega, h2, by simp [h3], rfl, by simp [h3], rfl, by simp, by simp⟩)))))
            · exact .inr (.inr (.inr (.inr (.inr (.inr ⟨by omega, h2, by simp [h3], rfl, by simp [h5], by simp [h6], by simp [h5], by simp [h1, h2, h3, h5, h6]⟩)))))
        · exact .inr (.inr (.inr (.inl ⟨by omega, h2, by simp [h3], by simp [h4], by simp [h4], by simp [h4]⟩)))
    · exact .inr (.inl ⟨by omega, by omega, by simp [h2], by simp [h2]⟩)
  · exact .inl ⟨by omega, by simp [h1], by simp [h1]⟩
end Go.Proofs.Qxb6619756a
