/-
  FROM THE ROW's CELL 'laid' TO WHAT unicode.IsSpace's CONTRACT ASKS OF THE WORLD.
-/
import Derived.Test.Qxb6618844aDoorShelf
import Derived.Test.Qxb6618844aDoorFrame
import Derived.Lib.LaidU8
namespace Go.Proofs.Qxb6618844aDoor
open Go.RowKit Go.Lib

theorem white_of_laid {w : World} (h : laidMetH Tryd.prog laid1 w) : Lib.WhiteTab 0 w := by
  rw [MakeChecks.laidMetH_plain _ _ _ (by kernel_rfl)] at h
  have hr : VarReads Tryd.prog w "unicode.White_Space" Rows.laid_unicode_White_Space := laidMet.reads h (by simp [laid1])
  have e : Rows.laid_unicode_White_Space = Lib.whiteData := by kernel_rfl
  rw [e] at hr
  exact whiteTab_of_reads Tryd.lays199 { n6 := by kernel_rfl, y6 := by kernel_rfl, c3 := by kernel_rfl, c49 := by kernel_rfl, c193 := by kernel_rfl, c194 := by kernel_rfl, c196 := by kernel_rfl, c198 := by kernel_rfl } hr

end Go.Proofs.Qxb6618844aDoor
