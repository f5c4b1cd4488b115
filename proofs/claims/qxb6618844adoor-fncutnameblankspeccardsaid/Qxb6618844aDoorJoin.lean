/-
  FnCutNameBlankJoin: the walk and the card.
-/
import Derived.Test.Qxb6618844aDoorWalksB
import Derived.Test.Qxb6618844aDoorWhite
set_option linter.unusedSimpArgs false
set_option linter.unusedVariables false
namespace Go.Proofs.Qxb6618844aDoor
open Go.RowKit Go.Lib

theorem split_eq (a : ByteArray) (k : Nat) (h : k ≤ a.size) : a.extract 0 k ++ a.extract k a.size = a := by
  apply ByteArray.ext
  rw [ByteArray.data_append, ByteArray.data_extract, ByteArray.data_extract]
  rw [Array.extract_append_extract]
  rw [Nat.min_eq_left (Nat.zero_le _), Nat.max_eq_right h]
  exact Array.extract_eq_self_of_le (Nat.le_refl _)
theorem pre_size (a : ByteArray) : (a.extract 0 (cutAt a)).size = cutAt a := by
  have := cutAt_le a
  rw [ByteArray.size_extract]; omega
theorem pre_list (a : ByteArray) : (a.extract 0 (cutAt a)).data.toList = a.data.toList.take (cutAt a) := by
  rw [ByteArray.data_extract]
  simp
theorem cut_join (a b : ByteArray) : (a.extract 0 (cutAt a) ++ b).extract 0 (cutAt (a.extract 0 (cutAt a) ++ b)) = a.extract 0 (cutAt a) ++ b.extract 0 (cutAt b) ∧
    (a.extract 0 (cutAt a) ++ b).extract (cutAt (a.extract 0 (cutAt a) ++ b)) (a.extract 0 (cutAt a) ++ b).size = b.extract (cutAt b) b.size := by
  have hs := pre_size a
  have e' : cutAt (a.extract 0 (cutAt a) ++ b) = (a.extract 0 (cutAt a)).size + cutAt b := by
    rw [hs]
    have h := Blank.join a.data.toList b.data.toList
    show Blank.blankLen (a.extract 0 (cutAt a) ++ b).data.toList = _
    rw [ByteArray.data_append, Array.toList_append, pre_list a]
    exact h
  rw [e']
  generalize a.extract 0 (cutAt a) = n at *
  generalize cutAt b = m at *
  constructor
  · apply ByteArray.ext
    have ha : n.data.extract 0 (n.size + m) = n.data := Array.extract_eq_self_of_le (Nat.le_add_right _ _)
    simp [Array.extract_append, ha]
  · apply ByteArray.ext
    simp [Array.extract_append]

set_option maxHeartbeats 400000 in
theorem walk4 (a b : ByteArray) (w : World) (ha : a.size ≤ maxLen) (hb : b.size ≤ maxLen) (hW : Lib.WhiteTab 0 w) :
    Calls Tryd.prog 4 #[.string a, .string b] w fun e w' => e = .returned (.bool true) ∧ Below w.heap.size w w' := by
  have c10 := bytes10 a b w ha hb
  by_cases h1 : a.size + b.size ≤ 1048576
  · have h2 : ¬ (1048576 : Int) < (a.size : Int) := by omega
    have h3 : ¬ (1048576 : Int) - (a.size : Int) < (b.size : Int) := by omega
    have h4 : decide (a.size + b.size ≤ 1048576) = true := by simpa using h1
    rw [h4] at c10
    have hsz := pre_size a
    have hle := cutAt_le a
    have hleb := cutAt_le b
    have hszb := pre_size b
    have hj := split_eq a (cutAt a) hle
    have c1 := fun W (hb : Below w.heap.size w W) => cut_any a W ha (WhiteTab_below hW hb)
    have c2 := fun W (hb' : Below w.heap.size w W) => cut_any b W hb (WhiteTab_below hW hb')
    have c3 := fun W (hb' : Below w.heap.size w W) => cut_any (a.extract 0 (cutAt a) ++ b) W (by unfold maxLen; rw [ByteArray.size_append, hsz]; omega) (WhiteTab_below hW hb')
    simp only [cut_join a b] at c3
    have c9 := fun W => ascii_any a W ha
    have c11 := fun W => alnum_any a W ha
    have g1 : Blank.asciiPre a.data.toList ≤ cutAt a := Blank.asciiPre_le _
    have g2 : cutAt a ≤ Blank.firstAlnum a.data.toList := Blank.le_alnum _
    rw [← hsz] at g1 g2
    have hn : (a.extract 0 (cutAt a)).size ≤ a.size := by omega
    have hnr : (a.extract 0 (cutAt a)).size + (a.extract (cutAt a) a.size).size ≤ 1048576 := by rw [← ByteArray.size_append, hj]; omega
    have hnb : (b.extract 0 (cutAt b)).size ≤ b.size := by omega
    generalize Blank.asciiPre a.data.toList = p at *
    generalize Blank.firstAlnum a.data.toList = q at *
    clear hsz hle hleb hszb h4 hW ha hb
    generalize a.extract 0 (cutAt a) = n at *
    generalize a.extract (cutAt a) a.size = r at *
    generalize b.extract 0 (cutAt b) = nb at *
    generalize b.extract (cutAt b) b.size = rb at *
    have g1' : ¬ (n.size : Int) < (p : Int) := by omega
    have g2' : ¬ (q : Int) < (n.size : Int) := by omega
    go_enter Tryd.func4, Tryd.ntmps4
    go_wp2_with (go_at_call 10; refine c10.mono ?_; rintro e w' ⟨rfl, hw⟩; have hw := hw.symm; subst hw)
    refine (c1 _ (Below.refl _ _)).mono ?_
    rintro e w1 ⟨rfl, hb1⟩
    clear c1 c10
    go_wp2_with (first
      | (go_at_call 9; refine (c9 _).mono ?_; rintro e w' ⟨rfl, hw⟩; have hw := hw.symm; subst hw)
      | (go_at_call 11; refine (c11 _).mono ?_; rintro e w' ⟨rfl, hw⟩; have hw := hw.symm; subst hw))
    refine (c2 _ hb1).mono ?_
    rintro e w2 ⟨rfl, hb2⟩
    have hb2' : Below w.heap.size w w2 := hb1.trans (hb2.mono hb1.size)
    clear c2 c9 c11
    go_wp2_with fail
    refine (c3 _ hb2').mono ?_
    rintro e w3 ⟨rfl, hb3⟩
    have hb3' : Below w.heap.size w w3 := hb2'.trans (hb3.mono hb2'.size)
    clear c3
    go_wp2
    go_ret
    exact ⟨by simp, hb3'⟩
  · have h4 : decide (a.size + b.size ≤ 1048576) = false := by simpa using h1
    rw [h4] at c10
    clear h4
    go_enter Tryd.func4, Tryd.ntmps4
    go_wp2_with (go_at_call 10; refine c10.mono ?_; rintro e w' ⟨rfl, hw⟩; have hw := hw.symm; subst hw)
    go_ret
    exact ⟨rfl, Below.refl _ _⟩

/-- THE CARD. -/
theorem joinProved : Rows.FnCutNameBlankJoinCardSaid := card4 fun a b w ha hb hL => walk4 a b w ha hb (white_of_laid hL)

end Go.Proofs.Qxb6618844aDoor
