/-
  FnCutNameBlankSpec: the walk and the card.
-/
import Derived.Test.Qxb6618844aDoorJoin
import Derived.Deep.LoopGhost
import Derived.Lib.OthersKept
set_option linter.unusedSimpArgs false
set_option linter.unusedVariables false
namespace Go.Proofs.Qxb6618844aDoor
open Go.RowKit Go.Lib

/-- One rune of a text that is blank throughout. -/
theorem all_step (n : ByteArray) (pos : Nat) (h : pos < n.size) (hb : Blank.blankLen (n.data.toList.drop pos) = n.size - pos) :
    Blank.blankR (Utf8.decode n pos).1 = true ∧ Blank.blankLen (n.data.toList.drop (pos + (Utf8.decode n pos).2)) = n.size - (pos + (Utf8.decode n pos).2) ∧ pos + (Utf8.decode n pos).2 ≤ n.size := by
  have hne : n.data.toList.drop pos ≠ [] := by
    intro e
    have := congrArg List.length e
    simp at this
    omega
  have hll : (n.data.toList.drop pos).length = n.size - pos := by simp
  have hd := decodeL_drop n pos
  have hf := Blank.decodeL_fits _ hne
  rw [← hd]
  have hy : Blank.blankR (decodeL (n.data.toList.drop pos)).1 = true := by
    cases hc : Blank.blankR (decodeL (n.data.toList.drop pos)).1
    · rw [Blank.blankLen_no _ hc] at hb; omega
    · rfl
  refine ⟨hy, ?_, by omega⟩
  rw [Blank.blankLen_yes _ hne hy, List.drop_drop] at hb
  omega
theorem lt_of_get {w : World} {k : Nat} {o : Obj} (h : w.heap[k]? = some o) : k < w.heap.size := by
  rcases Nat.lt_or_ge k w.heap.size with h' | h'
  · exact h'
  · rw [Array.getElem?_eq_none h'] at h; cases h
theorem rest_first (s : ByteArray) (h : 0 < (s.extract (cutAt s) s.size).size) : Blank.blankR (Utf8.decode (s.extract (cutAt s) s.size) 0).1 = false := by
  have hl : (s.extract (cutAt s) s.size).data.toList = s.data.toList.drop (cutAt s) := by
    rw [ByteArray.data_extract, Array.toList_extract, List.extract_eq_take_drop]
    exact List.take_of_length_le (by simp)
  have hd := decodeL_drop (s.extract (cutAt s) s.size) 0
  rw [List.drop_zero, hl] at hd
  rw [← hd]
  refine Blank.rest_no _ _ (Nat.le_refl _) ?_
  intro e
  rw [show Blank.blankLen s.data.toList = cutAt s from rfl, ← hl] at e
  have := congrArg List.length e
  simp at this h
  omega

set_option maxHeartbeats 1000000 in
theorem walk3 (s : ByteArray) (w : World) (hs : s.size ≤ maxLen) (hW : Lib.WhiteTab 0 w) :
    Calls Tryd.prog 3 #[.string s] w fun e w' => e = .returned (.bool true) ∧ Below w.heap.size w w' := by
  have c6 := bytes6 s w hs
  by_cases h1 : s.size ≤ 1048576
  · have h2 : ¬ (1048576 : Int) < (s.size : Int) := by omega
    have h4 : decide (s.size ≤ 1048576) = true := by simpa using h1
    rw [h4] at c6
    have hsz := pre_size s
    have hle := cutAt_le s
    have hj := split_eq s (cutAt s) hle
    have c1 := cut_any s w hs hW
    have c9 := fun W => ascii_any s W hs
    have g1 : Blank.asciiPre s.data.toList ≤ cutAt s := Blank.asciiPre_le _
    rw [← hsz] at g1
    have cB := fun (r : Nat) W (hr : r ≤ 1114111) (hb : Below w.heap.size w W) => zzBlank_any (r : Int) W (by omega) (by omega) (WhiteTab_below hW hb)
    simp only [Blank.blankZ_nat] at cB
    have hall : Blank.blankLen (s.extract 0 (cutAt s)).data.toList = (s.extract 0 (cutAt s)).size := by
      rw [pre_list, hsz]; exact Blank.pre _
    have hno := rest_first s
    have hnr : (s.extract 0 (cutAt s)).size + (s.extract (cutAt s) s.size).size ≤ 1048576 := by rw [← ByteArray.size_append, hj]; omega
    generalize Blank.asciiPre s.data.toList = p at *
    clear hsz hle h4 hW hs
    generalize s.extract 0 (cutAt s) = n at *
    generalize s.extract (cutAt s) s.size = r at *
    have g1' : (p : Int) ≤ (n.size : Int) := by omega
    have HA := hide hall
    have HN := hide hno
    clear hall hno
    go_enter Tryd.func3, Tryd.ntmps3
    go_wp2_with (go_at_call 6; refine c6.mono ?_; rintro e w' ⟨rfl, hw⟩; have hw := hw.symm; subst hw)
    refine c1.mono ?_
    rintro e w1 ⟨rfl, hb1⟩
    have hz1 := hb1.size
    clear c1 c6
    go_wp2
    go_loopg [] n.size (fun gf wx => ∃ pos : Nat, wx.heap[w1.heap.size]? = some (.stringIter n pos) ∧ Below w.heap.size w wx ∧ Hid (pos ≤ n.size ∧ Blank.blankLen (n.data.toList.drop pos) = n.size - pos ∧ n.size ≤ pos + gf))
    case atStart => exact ⟨0, World.iter_heap w1 n 0, hb1.alloc hz1 _, ⟨Nat.zero_le _, by simpa using unhide HA, by omega⟩⟩
    case round =>
      obtain ⟨pos, hit, hbw, hrest⟩ := hrel
      obtain ⟨hp0, hleft, hfu⟩ := unhide hrest
      clear hrest
      by_cases hps : pos < n.size
      · obtain ⟨g', rfl⟩ : ∃ g', gk = g' + 1 := ⟨gk - 1, by omega⟩
        have hnx : ∀ ty, (Instr.next (.pointer (some ⟨w1.heap.size, 0, none⟩)) true ty).run Tryd.prog wr = _ := fun ty => Lib.run_next_any_at wr w1.heap.size n pos ty hit hps
        have hwd := Lib.width_pos n pos
        obtain ⟨hy, hnext, hfit⟩ := all_step n pos hps hleft
        have hRl := Lib.rune_le n pos
        obtain ⟨R, hR⟩ : ∃ R, (Utf8.decode n pos).1 = R := ⟨_, rfl⟩
        obtain ⟨K, hK⟩ : ∃ K, (Utf8.decode n pos).2 = K := ⟨_, rfl⟩
        rw [hR] at hy hRl
        rw [hK] at hnext hfit hwd
        rw [hR, hK] at hnx
        have hit2 := Lib.iterAt_heap wr w1.heap.size n pos (pos + K) hit
        have hbw2 := Lib.below_iterAt hbw (k := w1.heap.size) hz1 n (pos + K)
        obtain ⟨W, hWd⟩ : ∃ W, wr.iterAt w1.heap.size n (pos + K) = W := ⟨_, rfl⟩
        rw [hWd] at hnx hit2 hbw2
        have cS := cB R W hRl hbw2
        rw [hy] at cS
        have HX := hide (And.intro hleft (And.intro hnext (And.intro hfit (And.intro hfu hwd))))
        clear hleft hnext hfu hy hR hK hWd cB c9 HA HN hit hbw hfit
        go_wp2_with (go_at_call 8; refine cS.mono ?_; rintro e W' ⟨rfl, q, rfl⟩)
        obtain ⟨_, hnext, hfit, hfu, hwd⟩ := unhide HX
        go_roundg g'
        case measure => omega
        case rel => exact ⟨pos + K, hit2, below_drewN' hbw2 q, ⟨hfit, hnext, by omega⟩⟩
      · have hnx : ∀ ty, (Instr.next (.pointer (some ⟨w1.heap.size, 0, none⟩)) true ty).run Tryd.prog wr = _ := fun ty => Lib.run_next_end_at wr w1.heap.size n pos ty hit hps
        clear hleft hfu HA
        obtain ⟨wA, rfl⟩ : ∃ x, x = wr := ⟨wr, rfl⟩
        go_wp2
        go_loopg [] 1 (fun gf wx => wx.heap[wA.heap.size]? = some (.stringIter r 0) ∧ Below w.heap.size w wx)
        case atStart => exact ⟨World.iter_heap wA r 0, hbw.alloc hbw.size _⟩
        case round =>
          obtain ⟨hit2, hbx⟩ := hrel
          clear hnx
          by_cases hrs : 0 < r.size
          · have hnx : ∀ ty, (Instr.next (.pointer (some ⟨wA.heap.size, 0, none⟩)) true ty).run Tryd.prog wr = _ := fun ty => Lib.run_next_any_at wr wA.heap.size r 0 ty hit2 hrs
            have hy := unhide HN hrs
            have hRl := Lib.rune_le r 0
            obtain ⟨R, hR⟩ : ∃ R, (Utf8.decode r 0).1 = R := ⟨_, rfl⟩
            obtain ⟨K, hK⟩ : ∃ K, (Utf8.decode r 0).2 = K := ⟨_, rfl⟩
            rw [hR] at hy hRl
            rw [hR, hK] at hnx
            have hbx2 := Lib.below_iterAt hbx (k := wA.heap.size) hbw.size r (0 + K)
            obtain ⟨W, hWd⟩ : ∃ W, wr.iterAt wA.heap.size r (0 + K) = W := ⟨_, rfl⟩
            rw [hWd] at hnx hbx2
            have cS := cB R W hRl hbx2
            rw [hy] at cS
            clear hR hK hWd cB HN hit hit2 hbx hbw hy
            go_wp2_with (first
              | (go_at_call 8; refine cS.mono ?_; rintro e W' ⟨rfl, q, rfl⟩)
              | (go_at_call 9; refine (c9 _).mono ?_; rintro e w' ⟨rfl, hw⟩; have hw := hw.symm; subst hw))
            go_ret
            exact ⟨by simp, below_drewN' hbx2 q⟩
          · have hnx : ∀ ty, (Instr.next (.pointer (some ⟨wA.heap.size, 0, none⟩)) true ty).run Tryd.prog wr = _ := fun ty => Lib.run_next_end_at wr wA.heap.size r 0 ty hit2 hrs
            clear cB HN hit hit2 hbw
            go_wp2_with (go_at_call 9; refine (c9 _).mono ?_; rintro e w' ⟨rfl, hw⟩; have hw := hw.symm; subst hw)
            go_ret
            exact ⟨by simp, hbx⟩
  · have h4 : decide (s.size ≤ 1048576) = false := by simpa using h1
    rw [h4] at c6
    clear h4
    go_enter Tryd.func3, Tryd.ntmps3
    go_wp2_with (go_at_call 6; refine c6.mono ?_; rintro e w' ⟨rfl, hw⟩; have hw := hw.symm; subst hw)
    go_ret
    exact ⟨rfl, Below.refl _ _⟩

/-- THE CARD. -/
theorem specProved : Rows.FnCutNameBlankSpecCardSaid := card3 fun s w hs hL => walk3 s w hs (white_of_laid hL)

end Go.Proofs.Qxb6618844aDoor
