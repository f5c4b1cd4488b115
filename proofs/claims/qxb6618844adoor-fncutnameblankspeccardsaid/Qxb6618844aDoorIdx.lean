/-
  strings.IndexFunc(s, 'no blank'), as the shelf says it ('Lib.idxFunc'), in the words of the plain law ('blankLen').
-/
import Derived.Test.Qxb6618844aDoorPlain
import Derived.Shelf.GgClosure.StringsRunes
set_option linter.unusedVariables false
namespace Go.Proofs.Qxb6618844aDoor.Blank
open Go Go.Lib

def notBlank (r : Nat) : Bool := !blankR r

theorem idxFrom (s : ByteArray) : ∀ (f pos : Nat), s.size ≤ pos + f → pos ≤ s.size →
    idxFuncFrom notBlank true s f pos = if pos + blankLen (s.data.toList.drop pos) < s.size then ((pos + blankLen (s.data.toList.drop pos) : Nat) : Int) else -1
  | 0, pos, h, h' => by
    have e : s.data.toList.drop pos = [] := List.drop_of_length_le (by simp; omega)
    rw [e, blankLen_nil, if_neg (by omega)]; rfl
  | f + 1, pos, h, h' => by
    unfold idxFuncFrom
    by_cases hp : pos < s.size
    · rw [if_pos hp]
      have hd := decodeL_drop s pos
      have hne : s.data.toList.drop pos ≠ [] := by
        intro e
        have := congrArg List.length e
        simp at this
        omega
      have hw := decodeL_width (s.data.toList.drop pos)
      have hf := decodeL_fits (s.data.toList.drop pos) hne
      have hll : (s.data.toList.drop pos).length = s.size - pos := by simp
      rw [← hd]
      by_cases hb : blankR (decodeL (s.data.toList.drop pos)).1 = true
      · rw [if_neg (by simp [notBlank, hb]), blankLen_yes _ hne hb, idxFrom s f _ (by omega) (by omega), List.drop_drop, Nat.add_assoc]
      · have hb' : blankR (decodeL (s.data.toList.drop pos)).1 = false := by simpa using hb
        rw [if_pos (by simp [notBlank, hb']), blankLen_no _ hb', if_pos (by omega)]
        rfl
    · rw [if_neg hp]
      have e : s.data.toList.drop pos = [] := List.drop_of_length_le (by simp; omega)
      rw [e, blankLen_nil, if_neg (by omega)]
theorem idx (s : ByteArray) : idxFunc notBlank true s = if blankLen s.data.toList < s.size then ((blankLen s.data.toList : Nat) : Int) else -1 := by
  unfold idxFunc
  rw [idxFrom s s.size 0 (by omega) (by omega)]
  simp

end Go.Proofs.Qxb6618844aDoor.Blank
