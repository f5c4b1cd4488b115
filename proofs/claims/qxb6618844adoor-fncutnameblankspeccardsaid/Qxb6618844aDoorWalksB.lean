/-
  THE WALKS of isBlank (15), ZZisBlank (8), the closure in cutName (17), cutName (14), ZZcutNameBlank (7): the library's two functions by the shelf's contracts.
-/
import Derived.Test.Qxb6618844aDoorWalksA
import Derived.Test.Qxb6618844aDoorIdx
import Derived.Test.Qxb6618844aDoorShelf
import Derived.Lib.LaidU8
import Derived.RegionTactic
import Derived.Deep.QuietTactic
import Derived.BigQuiet
set_option linter.unusedSimpArgs false
set_option linter.unusedVariables false
namespace Go.Proofs.Qxb6618844aDoor
open Go.RowKit Go.Lib

set_option maxHeartbeats 400000 in
theorem blank_any (r : Int) (w : World) (hlo : -2147483648 ≤ r) (hhi : r ≤ 2147483647) (hW : Lib.WhiteTab 0 w) :
    Calls Tryd.prog 15 #[.int .i32 r] w fun e w' => e = .returned (.bool (Blank.blankZ r)) ∧ ∃ q, w' = w.drewN q := by
  have cS := Tryd.unicode_IsSpace_any_d r w hlo hhi hW
  clear hW
  by_cases h : r = 35
  · have hb : Blank.blankZ r = true := by simp [Blank.blankZ, h]
    have h35 : (r == 35) = true := by simp [h]
    rw [hb]
    clear cS hb h
    go_enter Tryd.func15, Tryd.ntmps15
    go_wp2
    go_ret
    exact ⟨rfl, 0, rfl⟩
  · have hb : Blank.blankZ r = Lib.isSpaceZ r := by
      have : (r == 35) = false := by simpa using h
      simp [Blank.blankZ, Lib.isSpaceZ, this]
    have h35 : (r == 35) = false := by simpa using h
    rw [hb]
    clear hb h
    go_enter Tryd.func15, Tryd.ntmps15
    go_wp2_with (go_at_call 18; refine cS.mono ?_; rintro e w' ⟨rfl, q, rfl⟩)
    go_ret
    exact ⟨rfl, q, rfl⟩

set_option maxHeartbeats 400000 in
theorem zzBlank_any (r : Int) (w : World) (hlo : -2147483648 ≤ r) (hhi : r ≤ 2147483647) (hW : Lib.WhiteTab 0 w) :
    Calls Tryd.prog 8 #[.int .i32 r] w fun e w' => e = .returned (.bool (Blank.blankZ r)) ∧ ∃ q, w' = w.drewN q := by
  have cS := blank_any r w hlo hhi hW
  clear hW
  go_enter Tryd.func8, Tryd.ntmps8
  go_wp2_with (go_at_call 15; refine cS.mono ?_; rintro e w' ⟨rfl, q, rfl⟩)
  go_ret
  exact ⟨rfl, q, rfl⟩

theorem eg15 : ∀ args w, (callFunc 15 args).run Tryd.prog w = .ok (.enter 15 args) w := enters_of Tryd.func15 (by kernel_rfl) rfl
theorem eg17 : ∀ args w, (callFunc 17 args).run Tryd.prog w = .ok (.enter 17 args) w := enters_of Tryd.func17 (by kernel_rfl) rfl

set_option maxHeartbeats 400000 in
theorem pred17 (w : World) (B : Nat) (hB : B < w.heap.size) (hc : w.cell? ⟨B, 0, none⟩ = some (.func (.func 15) #[] #[])) (hW : Lib.WhiteTab 0 w) :
    PredAtRunes Tryd.prog 17 #[.pointer (some ⟨B, 0, none⟩)] Blank.notBlank w := fun W x hx hb => by
  have hc' := (hb.cell (p := ⟨B, 0, none⟩) hB).trans hc
  have cB := blank_any (x : Int) W (by omega) (by omega) (WhiteTab_below hW hb)
  rw [Blank.blankZ_nat] at cB
  have e15 := eg15
  clear hc hW hb hB
  unfold FnGives
  unfold Blank.notBlank
  go_enter Tryd.func17, Tryd.ntmps17
  go_wp2_with (go_at_fn 15; refine cB.mono ?_; rintro e w' ⟨rfl, q, rfl⟩)
  go_ret
  exact ⟨rfl, q, rfl⟩

/-- How many bytes of s cutName takes. -/
def cutAt (s : ByteArray) : Nat := Blank.blankLen s.data.toList
theorem cutAt_le (s : ByteArray) : cutAt s ≤ s.size := by
  have := Blank.blankLen_len s.data.toList
  simpa [cutAt] using this

theorem idx14 (s : ByteArray) (w W : World) (hB : w.heap.size < W.heap.size) (hc : W.cell? ⟨w.heap.size, 0, none⟩ = some (.func (.func 15) #[] #[])) (hb : Below w.heap.size w W) (hW : Lib.WhiteTab 0 w) :
    Calls Tryd.prog 16 #[.string s, .func (.func 17) #[] #[.pointer (some ⟨w.heap.size, 0, none⟩)]] W fun e w' => e = .returned (.int .i64 (if cutAt s < s.size then ((cutAt s : Nat) : Int) else -1)) ∧ Below W.heap.size W w' := by
  have h := Tryd.strings_IndexFunc_runes 17 #[.pointer (some ⟨w.heap.size, 0, none⟩)] eg17 Blank.notBlank s W (pred17 W w.heap.size hB hc (WhiteTab_below hW hb))
  rw [Blank.idx] at h
  exact h

theorem extract_all (s : ByteArray) : s.extract 0 s.size = s := by
  apply ByteArray.ext
  simp
theorem extract_none (s : ByteArray) : s.extract s.size s.size = ⟨#[]⟩ := by
  apply ByteArray.ext
  simp

set_option maxHeartbeats 400000 in
theorem cut14 (s : ByteArray) (w : World) (hs : s.size ≤ maxLen) (hW : Lib.WhiteTab 0 w) :
    Calls Tryd.prog 14 #[.string s, .func (.func 15) #[] #[]] w fun e w' => e = .returned (.tuple #[.string (s.extract 0 (cutAt s)), .string (s.extract (cutAt s) s.size)]) ∧ Below w.heap.size w w' := by
  unfold maxLen at hs
  have hle := cutAt_le s
  have hC := fun W hB hc hb => idx14 s w W hB hc hb hW
  clear hW
  by_cases h : cutAt s < s.size
  · simp only [if_pos h] at hC
    generalize cutAt s = n at *
    go_enter Tryd.func14, Tryd.ntmps14
    go_wp2_with (go_at_call 16; refine (hC _ (by simp) (by simp) ((Below.refl _ w).alloc (Nat.le_refl _) _)).mono ?_; rintro e w' ⟨rfl, hb⟩)
    clear hC
    go_quiet (fail)
    go_wp2
    go_ret2
    exact ⟨rfl, below_drewN' (((Below.refl _ w).alloc (Nat.le_refl _) _).trans (hb.mono (by simp))) _⟩
  · have he : cutAt s = s.size := by omega
    simp only [if_neg h] at hC
    rw [he, extract_all, extract_none]
    clear h he hle
    go_enter Tryd.func14, Tryd.ntmps14
    go_wp2_with (go_at_call 16; refine (hC _ (by simp) (by simp) ((Below.refl _ w).alloc (Nat.le_refl _) _)).mono ?_; rintro e w' ⟨rfl, hb⟩)
    go_ret2
    exact ⟨rfl, ((Below.refl _ w).alloc (Nat.le_refl _) _).trans (hb.mono (by simp))⟩

set_option maxHeartbeats 400000 in
theorem cut_any (s : ByteArray) (w : World) (hs : s.size ≤ maxLen) (hW : Lib.WhiteTab 0 w) :
    Calls Tryd.prog 7 #[.string s] w fun e w' => e = .returned (.tuple #[.string (s.extract 0 (cutAt s)), .string (s.extract (cutAt s) s.size)]) ∧ Below w.heap.size w w' := by
  have hC := cut14 s w hs hW
  clear hW hs
  generalize s.extract 0 (cutAt s) = a at *
  generalize s.extract (cutAt s) s.size = b at *
  go_enter Tryd.func7, Tryd.ntmps7
  go_wp2_with (go_at_call 14; refine hC.mono ?_; rintro e w' ⟨rfl, hb⟩)
  go_ret2
  exact ⟨rfl, hb⟩

end Go.Proofs.Qxb6618844aDoor
