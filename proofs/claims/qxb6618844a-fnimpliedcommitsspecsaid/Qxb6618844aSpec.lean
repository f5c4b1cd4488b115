/-
  FnImpliedCommitsSpec (4): the walk.
-/
import Derived.Test.Qxb6618844aKindAt
set_option linter.unusedSimpArgs false
set_option linter.unusedVariables false
namespace Go.Proofs.Qxb6618844a
open Go.RowKit Go.Maps

/-- The set of the identifiers seen so far. -/
def SetIs (D : DataW Unit) (l : List (List UInt8)) : Prop := IsMap D ∧ ∀ t, D.atKey (.string t) (.lit (.bool false)) = .lit (.bool (decide (t ∈ l)))
theorem SetIs.empty : SetIs (.map []) [] := ⟨isMap_empty, fun t => by rw [atKey_of_not_has (by simp [has_eq])]; simp⟩
theorem SetIs.put {D : DataW Unit} {l : List (List UInt8)} (h : SetIs D l) (t : List UInt8) : SetIs (D.put (.string t) (.lit (.bool true))) (t :: l) := by
  obtain ⟨h1, h2⟩ := h
  refine ⟨h1.put _ _, fun s => ?_⟩
  by_cases e : s = t
  · subst e
    rw [atKey_put_same h1 (keyLit s)]
    simp
  · rw [atKey_put_other (by simpa using e), h2 s]
    simp [e]
theorem zeroB (w : World) : (zeroValue 4).run Try.prog w = .ok (.bool false) w := by kernel_rfl
/-- 'seen[t]'. -/
theorem look_bool {w : World} {B n : Nat} {D : DataW Unit} {l : List (List UInt8)} (hown : w.ownsMap Try.prog 9 (plainElem Try.prog 4) B n D) (hD : SetIs D l) (s : ByteArray) (hs : s.size ≤ maxLen) :
    (Instr.lookup 40 (.map (some B)) (.string s) false).run Try.prog w = .ok (.bool (decide (s.data.toList ∈ l))) w := by
  obtain ⟨v, ps, hrun, hv⟩ := hown.lookup law Try.underlying40 (zeroB w) (plainElem_bool Try.underlying4 false) (WideMaps.keyOf_string_mk Try.underlying9 hs)
  rw [hD.2] at hv
  have e : v = .bool (decide (s.data.toList ∈ l)) := by
    unfold plainElem at hv
    rw [Try.underlying4] at hv
    split at hv <;> simp_all
  rw [e] at hrun
  exact hrun

set_option maxHeartbeats 1000000 in
theorem walk4 (a : Option Addr) (n c : Nat) (os : List OpV) (w : World) (ha : ArgOps w a n os) :
    Calls Try.prog 4 #[.slice a n c] w fun e w' => e = .returned (.bool true) ∧ Below w.heap.size w w' := by
  have cB := bytes14 a n c os w ha
  have cT := tooBig_any a n c os 0 w ha
  have htx := ha.txn
  have hmm := @run_makeMap Try.prog
  go_enter Try.func4, Try.ntmps4
  go_wp2_with fail
  refine cB.mono ?_
  rintro e w' ⟨⟨m, rfl, hm⟩, hw⟩
  have hw := hw.symm
  subst hw
  clear cB
  cases m
  · go_wp2
    go_ret
    exact ⟨rfl, Below.refl _ _⟩
  · have hn := hm rfl
    clear hm
    go_wp2_with fail
    refine cT.mono ?_
    rintro e w1 ⟨⟨m, rfl⟩, hb1⟩
    clear cT
    cases m
    · go_wp2_with fail
      refine (history_any a n c os w1 hn (ha.below hb1)).mono ?_
      rintro e w2 ⟨v, rfl, hH, hb2⟩
      have hb2' := hb1.trans (hb2.mono hb1.size)
      have hl := ha.1
      obtain ⟨a', rfl, hHC⟩ := hH.calls (by omega) htx
      rw [hl] at hHC ⊢
      clear hb1 hb2 hH
      go_wp2_with fail
      refine (implied_any a' n os w2 hHC (by omega)).mono ?_
      rintro e w3 ⟨bi, rfl, hbi, hI, hb3⟩
      have hb3' := hb2'.trans (hb3.mono hb2'.size)
      have hA3 := ha.below hb3'
      have cY := anyEnds_any a n c os w3 hA3
      rw [show (os.any fun o => endsZ o.kind) = anyEnds os from rfl] at cY
      have HL := hide hl
      have HT : Hid ((txns os).length = n) := by unfold Hid; rw [txns_len]; exact hl
      have HA := hide hA3
      have HX := hide htx
      have HB := hide hb3'
      have HIA : Hid (∀ (k : Nat) (o : OpV), os[k]? = some o → (rowB (Imp.implied (!anyEnds os) (txns os)))[k]? = some (.bool (!anyEnds os && !decide (o.txn.data.toList ∈ (txns os).drop (k + 1))))) := fun k o ho => rowB_some _ k _ ((Imp.implied_at (!anyEnds os) (txns os) k _ (txns_at ho)).trans (by congr))
      generalize Imp.implied (!anyEnds os) (txns os) = bs at *
      generalize anyEnds os = ended at *
      clear hl ha htx hHC hb3 hb2' hb3' hA3
      go_wp2_with (go_at_call 13; refine cY.mono ?_; rintro e w' ⟨rfl, hw⟩; have hw := hw.symm; subst hw)
      clear cY hmm
      go_loopw [6] (fun i wr => ∃ (k : Nat) (D : DataW Unit), i = .int .i64 ((k : Int) - 1) ∧ k ≤ n ∧ Below w3.heap.size w3 wr ∧ wr.ownsMap Try.prog 9 (plainElem Try.prog 4) w3.heap.size (n - k) D ∧ Hid (SetIs D ((txns os).drop k))) (fun i _ => (intOf i + 1).toNat)
      case atStart => exact ⟨n, .map [], rfl, Nat.le_refl _, (Below.refl _ _).alloc (Nat.le_refl _) _, by rw [Nat.sub_self]; exact World.ownsMap_made _ _ _ _, by rw [Hid, List.drop_of_length_le (by have := unhide HT; omega)]; exact SetIs.empty⟩
      case round =>
        obtain ⟨k, D, rfl, hk, hbx, hown, hD⟩ := hrel
        by_cases hlt : 0 < k
        · obtain ⟨j, rfl⟩ : ∃ j, k = j + 1 := ⟨k - 1, by omega⟩
          have ej : ((j + 1 : Nat) : Int) - 1 = (j : Int) := by omega
          rw [ej]
          clear ej hlt
          obtain ⟨_, _, h3⟩ := unhide HA
          rcases h3 with h3 | ⟨b, off, rfl, hall⟩
          · omega
          obtain ⟨o, ho⟩ : ∃ o, os[j]? = some o := ⟨os[j]'(by have := unhide HL; omega), List.getElem?_eq_getElem _⟩
          have hct := ((hall j o ho).2.below hbx).2.1
          have hts := unhide HX o (List.mem_of_getElem? ho)
          have hkey := WideMaps.keyOf_string_mk Try.underlying9 hts
          have hlk := look_bool hown (unhide hD) o.txn hts
          have hcg := ((hI.below hbx hI.lt).cell j).trans (unhide HIA j o ho)
          have hput := (unhide hD).put o.txn.data.toList
          have hdr : o.txn.data.toList :: (txns os).drop (j + 1) = (txns os).drop j := by
            have hj : j < (txns os).length := by have := unhide HT; omega
            rw [List.drop_eq_getElem_cons hj]
            congr 1
            have := txns_at ho
            rw [List.getElem?_eq_getElem hj] at this
            exact (Option.some.inj this).symm
          rw [hdr] at hput
          have HP := hide hput
          generalize decide (o.txn.data.toList ∈ (txns os).drop (j + 1)) = x at *
          clear hput hdr ho hall HA HX HIA hD
          cases ended
          · simp only [Bool.not_false, Bool.true_and] at hcg
            go_wp2_with (at_mapUpdate; refine wpList_mapUpdate_own _ rfl _ _ _ 40 rfl 9 4 law Try.underlying40 _ w3.heap.size _ D rfl hown (by unfold maxLen; omega) _ _ _ rfl rfl hkey _ [] (plainElem_bool Try.underlying4 true) ?_; intro w4 hown4 hg4; have hb4 := hbx.grown hg4 hbx.size (fun i hi => by cases hi; exact Nat.le_refl _); have hcg4 := ((hI.below hb4 hI.lt).cell j).trans (((hI.below hbx hI.lt).cell j).symm.trans hcg))
            go_roundw
            case rel => exact ⟨j, _, rfl, by omega, hb4, by rw [show n - (j + 1) + 1 = n - j by omega] at hown4; exact hown4, HP⟩
            case measure => simp [intOf]
          · simp only [Bool.not_true, Bool.false_and] at hcg
            go_wp2_with (at_mapUpdate; refine wpList_mapUpdate_own _ rfl _ _ _ 40 rfl 9 4 law Try.underlying40 _ w3.heap.size _ D rfl hown (by unfold maxLen; omega) _ _ _ rfl rfl hkey _ [] (plainElem_bool Try.underlying4 true) ?_; intro w4 hown4 hg4; have hb4 := hbx.grown hg4 hbx.size (fun i hi => by cases hi; exact Nat.le_refl _); have hcg4 := ((hI.below hb4 hI.lt).cell j).trans (((hI.below hbx hI.lt).cell j).symm.trans hcg))
            go_roundw
            case rel => exact ⟨j, _, rfl, by omega, hb4, by rw [show n - (j + 1) + 1 = n - j by omega] at hown4; exact hown4, HP⟩
            case measure => simp [intOf]
        · have hk0 : k = 0 := by omega
          subst hk0
          go_wp2
          go_ret
          exact ⟨rfl, (unhide HB).trans (hbx.mono (unhide HB).size)⟩
    · go_wp2
      go_ret
      exact ⟨rfl, hb1⟩

end Go.Proofs.Qxb6618844a
