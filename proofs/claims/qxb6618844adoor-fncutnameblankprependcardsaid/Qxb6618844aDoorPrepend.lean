/-
  FnCutNameBlankPrepend: the walk and the card.
-/
import Derived.Test.Qxb6618844aDoorWalksB
import Derived.Test.Qxb6618844aDoorFrame
set_option linter.unusedSimpArgs false
set_option linter.unusedVariables false
namespace Go.Proofs.Qxb6618844aDoor
open Go.RowKit Go.Lib

theorem common_blank (r : Int) (h : commonZ r = true) : Blank.blankZ r = true := by
  simp only [commonZ, Bool.or_eq_true, beq_iff_eq] at h
  rcases h with (((rfl | rfl) | rfl) | rfl) | rfl <;> decide
theorem enc_le (r : Int) : (Utf8.encode r).size ≤ 4 := by
  unfold Utf8.encode
  simp only
  repeat' split
  all_goals (simp [ByteArray.size])
theorem cut_yes (r : Int) (s : ByteArray) (h : Blank.blankZ r = true) : (Utf8.encode r ++ s).extract 0 (cutAt (Utf8.encode r ++ s)) = Utf8.encode r ++ s.extract 0 (cutAt s) ∧ (Utf8.encode r ++ s).extract (cutAt (Utf8.encode r ++ s)) (Utf8.encode r ++ s).size = s.extract (cutAt s) s.size := by
  have e := Blank.prepend_yes r s.data.toList h
  have e' : cutAt (Utf8.encode r ++ s) = (Utf8.encode r).size + cutAt s := by
    unfold cutAt
    rw [ByteArray.data_append, Array.toList_append, e]
    simp
  rw [e']
  generalize Utf8.encode r = a at *
  generalize cutAt s = n at *
  constructor
  · apply ByteArray.ext
    have ha : a.data.extract 0 (a.size + n) = a.data := Array.extract_eq_self_of_le (Nat.le_add_right _ _)
    simp [Array.extract_append, ha]
  · apply ByteArray.ext
    simp [Array.extract_append]
theorem cut_no (r : Int) (s : ByteArray) (h : Blank.blankZ r = false) : (Utf8.encode r ++ s).extract 0 (cutAt (Utf8.encode r ++ s)) = ⟨#[]⟩ ∧ (Utf8.encode r ++ s).extract (cutAt (Utf8.encode r ++ s)) (Utf8.encode r ++ s).size = Utf8.encode r ++ s := by
  have e' : cutAt (Utf8.encode r ++ s) = 0 := by
    unfold cutAt
    rw [ByteArray.data_append, Array.toList_append]
    exact Blank.prepend_no r s.data.toList h
  rw [e']
  constructor
  · apply ByteArray.ext; simp
  · exact extract_all _

set_option maxHeartbeats 400000 in
theorem walk5 (r : Int) (s : ByteArray) (w : World) (wr : (Lit.int .i32 r).wf = true) (hs : s.size ≤ maxLen) (hW : Lib.WhiteTab 0 w) :
    Calls Tryd.prog 5 #[.int .i32 r, .string s] w fun e w' => e = .returned (.bool true) ∧ Below w.heap.size w w' := by
  have hr : -2147483648 ≤ r ∧ r ≤ 2147483647 := bounds_i32 wr
  have c12 := bytes12 r s w hs
  by_cases h1 : s.size ≤ 1048572
  · have h2 : ¬ (1048572 : Int) < (s.size : Int) := by omega
    have h3 : decide (s.size ≤ 1048576) = true := by simp; omega
    rw [h3] at c12
    have cB := zzBlank_any r w hr.1 hr.2 hW
    have cC := fun w => common_any r w
    have c1 := fun W (hb : Below w.heap.size w W) => cut_any s W hs (WhiteTab_below hW hb)
    have c2 := fun W (hb : Below w.heap.size w W) => cut_any (Utf8.encode r ++ s) W (by have := enc_le r; unfold maxLen; rw [ByteArray.size_append]; omega) (WhiteTab_below hW hb)
    have he4 := enc_le r
    clear hW h3 hr wr hs
    cases ht : Blank.blankZ r
    · rw [ht] at cB
      have hc : commonZ r = false := by
        cases hc : commonZ r
        · rfl
        · rw [common_blank r hc] at ht; cases ht
      rw [hc] at cC
      simp only [cut_no r s ht] at c2
      clear ht hc
      generalize s.extract 0 (cutAt s) = n0 at *
      generalize s.extract (cutAt s) s.size = r0 at *
      go_enter Tryd.func5, Tryd.ntmps5
      go_wp2_with (first
        | (go_at_call 12; refine c12.mono ?_; rintro e w' ⟨rfl, hw⟩; have hw := hw.symm; subst hw)
        | (go_at_call 8; refine cB.mono ?_; rintro e w' ⟨rfl, q, rfl⟩)
        | (go_at_call 13; refine (cC _).mono ?_; rintro e w' ⟨rfl, hw⟩; have hw := hw.symm; subst hw))
      refine (c1 _ (below_drewN' (Below.refl _ _) _)).mono ?_
      rintro e w1 ⟨rfl, hb1⟩
      have hb1' : Below w.heap.size w w1 := (below_drewN' (Below.refl _ _) _).trans hb1
      clear c1 cB cC c12
      go_wp2_with fail
      refine (c2 _ hb1').mono ?_
      rintro e w2 ⟨rfl, hb2⟩
      have hb2' : Below w.heap.size w w2 := hb1'.trans (hb2.mono hb1'.size)
      clear c2
      go_wp2
      go_ret
      exact ⟨by simp, hb2'⟩
    · rw [ht] at cB
      have hn : (Utf8.encode r ++ s.extract 0 (cutAt s)).size ≤ 1048576 := by
        have := cutAt_le s
        rw [ByteArray.size_append, ByteArray.size_extract]; omega
      rw [ByteArray.size_append] at hn
      simp only [cut_yes r s ht] at c2
      clear ht
      generalize s.extract 0 (cutAt s) = n0 at *
      generalize s.extract (cutAt s) s.size = r0 at *
      generalize commonZ r = cb at cC
      cases cb
      all_goals
        go_enter Tryd.func5, Tryd.ntmps5
        go_wp2_with (first
          | (go_at_call 12; refine c12.mono ?_; rintro e w' ⟨rfl, hw⟩; have hw := hw.symm; subst hw)
          | (go_at_call 8; refine cB.mono ?_; rintro e w' ⟨rfl, q, rfl⟩)
          | (go_at_call 13; refine (cC _).mono ?_; rintro e w' ⟨rfl, hw⟩; have hw := hw.symm; subst hw))
        refine (c1 _ (below_drewN' (Below.refl _ _) _)).mono ?_
        rintro e w1 ⟨rfl, hb1⟩
        have hb1' : Below w.heap.size w w1 := (below_drewN' (Below.refl _ _) _).trans hb1
        clear c1 cB cC c12
        go_wp2_with fail
        refine (c2 _ hb1').mono ?_
        rintro e w2 ⟨rfl, hb2⟩
        have hb2' : Below w.heap.size w w2 := hb1'.trans (hb2.mono hb1'.size)
        clear c2
        go_wp2
        go_ret
        exact ⟨by simp, hb2'⟩
  · by_cases h2 : s.size ≤ 1048576
    · have h3 : (1048572 : Int) < (s.size : Int) := by omega
      have h4 : decide (s.size ≤ 1048576) = true := by simp; omega
      rw [h4] at c12
      clear h4
      go_enter Tryd.func5, Tryd.ntmps5
      go_wp2_with (go_at_call 12; refine c12.mono ?_; rintro e w' ⟨rfl, hw⟩; have hw := hw.symm; subst hw)
      go_ret
      exact ⟨rfl, Below.refl _ _⟩
    · have h4 : decide (s.size ≤ 1048576) = false := by simp; omega
      rw [h4] at c12
      clear h4
      go_enter Tryd.func5, Tryd.ntmps5
      go_wp2_with (go_at_call 12; refine c12.mono ?_; rintro e w' ⟨rfl, hw⟩; have hw := hw.symm; subst hw)
      go_ret
      exact ⟨rfl, Below.refl _ _⟩

theorem white_of_laid {w : World} (h : laidMetH Tryd.prog laid1 w) : Lib.WhiteTab 0 w := by
  rw [MakeChecks.laidMetH_plain _ _ _ (by kernel_rfl)] at h
  have hr : VarReads Tryd.prog w "unicode.White_Space" Rows.laid_unicode_White_Space := laidMet.reads h (by simp [laid1])
  have e : Rows.laid_unicode_White_Space = Lib.whiteData := by kernel_rfl
  rw [e] at hr
  exact whiteTab_of_reads Tryd.lays199 { n6 := by kernel_rfl, y6 := by kernel_rfl, c3 := by kernel_rfl, c49 := by kernel_rfl, c193 := by kernel_rfl, c194 := by kernel_rfl, c196 := by kernel_rfl, c198 := by kernel_rfl } hr

/-- THE CARD. -/
theorem prependProved : Rows.FnCutNameBlankPrependCardSaid := card5 fun r s w wr hs hL => walk5 r s w wr hs (white_of_laid hL)

end Go.Proofs.Qxb6618844aDoor
