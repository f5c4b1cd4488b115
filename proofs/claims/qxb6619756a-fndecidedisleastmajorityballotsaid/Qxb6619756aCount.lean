/-
  THE PLAIN LAW of the counts: how many masks hold each of the 64 ballots; a ballot beyond them is held by none. No Go text in sight.
-/
import Derived.Test.Qxb6619756aBits
set_option linter.unusedVariables false
namespace Go.Proofs.Qxb6619756a
open Go.RowKit

/-- The counts behind p whole masks and b bits of the next one. -/
def cnt (es : List Int) (p b : Nat) : List Int := (List.range 64).map fun i => ((holders (es.take (if i < b then p + 1 else p)) i : Nat) : Int)
theorem cnt_len (es : List Int) (p b : Nat) : (cnt es p b).length = 64 := by simp [cnt]
theorem cnt_get (es : List Int) (p b i : Nat) (h : i < 64) : (cnt es p b)[i]? = some ((holders (es.take (if i < b then p + 1 else p)) i : Nat) : Int) := by
  unfold cnt
  rw [List.getElem?_map, List.getElem?_range h]
  rfl
theorem cnt_none (es : List Int) (p b i : Nat) (h : ¬ i < 64) : (cnt es p b)[i]? = none := List.getElem?_eq_none (by rw [cnt_len]; omega)
theorem cnt_at (es : List Int) (p b : Nat) (h : b < 64) : (cnt es p b)[b]? = some ((holders (es.take p) b : Nat) : Int) := by
  rw [cnt_get es p b b h, if_neg (by omega)]
theorem cnt_step (es : List Int) (p b : Nat) (x : Int) (hx : x = ((holders (es.take (p + 1)) b : Nat) : Int)) : (cnt es p b).set b x = cnt es p (b + 1) := by
  apply List.ext_getElem?
  intro i
  by_cases hi : i < 64
  · by_cases hb : b = i
    · subst hb
      rw [List.getElem?_set_self (by rw [cnt_len]; exact hi), cnt_get es p (b + 1) b hi, if_pos (by omega), hx]
    · rw [List.getElem?_set_ne hb, cnt_get es p b i hi, cnt_get es p (b + 1) i hi]
      by_cases hlt : i < b
      · rw [if_pos hlt, if_pos (by omega)]
      · rw [if_neg hlt, if_neg (by omega)]
  · rw [List.getElem?_eq_none (by rw [List.length_set, cnt_len]; omega), cnt_none es p _ i hi]
theorem cnt_skip (es : List Int) (p b : Nat) (hx : holders (es.take (p + 1)) b = holders (es.take p) b) : cnt es p b = cnt es p (b + 1) := by
  apply List.ext_getElem?
  intro i
  by_cases hi : i < 64
  · rw [cnt_get es p b i hi, cnt_get es p (b + 1) i hi]
    by_cases hb : i = b
    · subst hb
      rw [if_neg (by omega), if_pos (by omega), hx]
    · by_cases hlt : i < b
      · rw [if_pos hlt, if_pos (by omega)]
      · rw [if_neg hlt, if_neg (by omega)]
  · rw [cnt_none es p _ i hi, cnt_none es p _ i hi]
theorem cnt_turn (es : List Int) (p : Nat) : cnt es p 64 = cnt es (p + 1) 0 := by
  apply List.ext_getElem?
  intro i
  by_cases hi : i < 64
  · rw [cnt_get es p 64 i hi, cnt_get es (p + 1) 0 i hi, if_pos hi, if_neg (by omega)]
  · rw [cnt_none es p _ i hi, cnt_none es (p + 1) _ i hi]
theorem cnt_zero (es : List Int) : cnt es 0 0 = List.replicate 64 0 := by
  apply List.ext_getElem?
  intro i
  by_cases hi : i < 64
  · rw [cnt_get es 0 0 i hi, if_neg (by omega), List.getElem?_replicate, if_pos hi]
    rfl
  · rw [cnt_none es 0 _ i hi, List.getElem?_eq_none (by simp; omega)]
/-- The counts of all masks. -/
def counts (es : List Int) : List Int := (List.range 64).map fun i => ((holders es i : Nat) : Int)
theorem counts_len (es : List Int) : (counts es).length = 64 := by simp [counts]
theorem cnt_all (es : List Int) (p : Nat) (h : es.length ≤ p) : cnt es p 0 = counts es := by
  unfold cnt counts
  simp [List.take_of_length_le h]
theorem counts_at (es : List Int) (i : Nat) (h : i < 64) : (counts es)[i]? = some ((holders es i : Nat) : Int) := by
  unfold counts
  rw [List.getElem?_map, List.getElem?_range h]
  rfl
theorem holders_len (es : List Int) (i : Nat) : holders es i ≤ es.length := List.length_filter_le _ _

/-- The lowest bit of a mask that was shifted b times. -/
theorem low_bit (e : Int) (b : Nat) (h0 : 0 ≤ e) : hasBit e b = (decide (b < 64) && (bits BinOp.and .u64 (e / 2 ^ b) 1 != 0)) := by
  obtain ⟨E, rfl⟩ := Int.eq_ofNat_of_zero_le h0
  have h1 : (E : Int) / 2 ^ b = ((E / 2 ^ b : Nat) : Int) := by simp
  have h2 : hasBit ((E / 2 ^ b : Nat) : Int) 0 = (bits BinOp.and .u64 ((E / 2 ^ b : Nat) : Int) 1 != 0) := rfl
  rw [h1, ← h2, hasBit_vec, hasBit_vec, BitVec.ofInt_natCast, BitVec.ofInt_natCast, BitVec.getLsbD_ofNat, BitVec.getLsbD_ofNat, Nat.testBit_div_two_pow]
  simp
theorem high_bit (e : Int) (b : Nat) (h : 64 ≤ b) : hasBit e b = false := by
  rw [hasBit_vec, BitVec.getLsbD_of_ge _ _ h]
theorem maj_high (es : List Int) (b : Nat) (h : 64 ≤ b) : maj es b = false := by
  unfold maj holders
  rw [List.filter_eq_nil_iff.2 (by intro e _; rw [high_bit e b h]; simp)]
  simp
/-- Behind the last ballot that a majority holds decided finds nothing. -/
theorem dec_high (maj : Nat → Bool) : ∀ (r : List Int) (b : Nat) (f : Int), (∀ i, b ≤ i → maj i = false) → Dec.dec maj b f r = (f, 0)
  | [], b, f, _ => rfl
  | v :: r, b, f, h => by
    have ih := dec_high maj r (b + 1) f (fun i hi => h i (by omega))
    by_cases h1 : v = 0 ∨ v = f
    · rw [Dec.dec_skip _ _ _ _ _ h1, ih]
    · rw [Dec.dec_no _ _ _ _ _ h1 (h b (Nat.le_refl _)), ih]

end Go.Proofs.Qxb6619756a
