/-
  FnImpliedCommitsKindAt (5): the walk.
-/
import Derived.Test.Qxb6618844aWalksK
import Derived.Test.Qxb6618844aWalksL
set_option linter.unusedSimpArgs false
set_option linter.unusedVariables false
namespace Go.Proofs.Qxb6618844a
open Go.RowKit

theorem HistC.of_block {w : World} {b n : Nat} {os : List OpV} (hB : Block w b (rowO os) 36) (hl : os.length = n) (hn : n ≤ 1048577) (htx : ∀ o ∈ os, o.txn.size ≤ maxLen) : HistC w (some ⟨b, 0, none⟩) n os :=
  ⟨hl, htx, fun W k o hW ho => op_any b n n k os o 36 W (hB.below hW hB.lt) ho (by have := (List.getElem?_eq_some_iff.1 ho).1; omega) hn⟩
theorem ArgOps.txn {w : World} {a : Option Addr} {n : Nat} {os : List OpV} (h : ArgOps w a n os) : ∀ o ∈ os, o.txn.size ≤ maxLen := by
  intro o ho
  obtain ⟨k, hk⟩ := List.getElem?_of_mem ho
  have hlt := (List.getElem?_eq_some_iff.1 hk).1
  rcases h.2.2 with h3 | ⟨b, off, _, hall⟩
  · have := h.1; omega
  · have := (hall k o hk).1.1
    unfold maxLen
    omega
theorem Hist.block {w : World} {B : Nat} {v : Value} {os : List OpV} (h : Hist w B v os) (hp : 0 < os.length) : ∃ b, B ≤ b ∧ v = .slice (some ⟨b, 0, none⟩) os.length os.length ∧ Block w b (rowO os) 36 := by
  rcases h with ⟨_, rfl⟩ | h
  · simp at hp
  · exact h

/-- The operations with place j's kind turned. -/
def kindAt (os : List OpV) (j : Nat) (k : Int) : List OpV := os.set j { (os.getD j zeroOp) with kind := k }
theorem kindAt_len (os : List OpV) (j : Nat) (k : Int) : (kindAt os j k).length = os.length := by simp [kindAt]
theorem kindAt_txns (os : List OpV) (j : Nat) (k : Int) (h : j < os.length) : txns (kindAt os j k) = txns os := by
  apply List.ext_getElem?
  intro i
  unfold txns kindAt
  rw [List.map_set]
  by_cases e : j = i
  · subst e
    rw [List.getElem?_set_self (by simpa using h)]
    simp [List.getD, h]
  · rw [List.getElem?_set_ne e]
theorem kindAt_ends (os : List OpV) (j : Nat) (k : Int) (h : j < os.length) (hk : endsZ k = true) : anyEnds (kindAt os j k) = true := by
  unfold anyEnds
  rw [List.any_eq_true]
  exact ⟨_, List.mem_of_getElem? (List.getElem?_set_self h), hk⟩
theorem kindAt_not (os : List OpV) (j : Nat) (k k' : Int) (h : j < os.length) (hk : endsZ k = false) (hk' : endsZ k' = false) : anyEnds (kindAt os j k) = anyEnds (kindAt os j k') := by
  have go : ∀ k1 k2 : Int, endsZ k1 = false → anyEnds (kindAt os j k1) = true → anyEnds (kindAt os j k2) = true := by
    intro k1 k2 h1 ha
    unfold anyEnds at ha ⊢
    rw [List.any_eq_true] at ha ⊢
    obtain ⟨o, ho, he⟩ := ha
    obtain ⟨i, hi⟩ := List.getElem?_of_mem ho
    unfold kindAt at hi
    by_cases e : j = i
    · subst e
      rw [List.getElem?_set_self h] at hi
      have := Option.some.inj hi
      subst this
      simp only at he
      rw [h1] at he; cases he
    · rw [List.getElem?_set_ne e] at hi
      refine ⟨o, List.mem_of_getElem? (i := i) ?_, he⟩
      unfold kindAt
      rw [List.getElem?_set_ne e]
      exact hi
  rw [Bool.eq_iff_iff]
  exact ⟨go k k' hk, go k' k hk'⟩
theorem kindAt_tx (os : List OpV) (j : Nat) (k : Int) (h : j < os.length) (htx : ∀ o ∈ os, o.txn.size ≤ maxLen) : ∀ o ∈ kindAt os j k, o.txn.size ≤ maxLen := by
  intro o ho
  rcases List.mem_or_eq_of_mem_set ho with h1 | rfl
  · exact htx o h1
  · have : os.getD j zeroOp ∈ os := by
      rw [List.getD_eq_getElem?_getD, List.getElem?_eq_getElem h]
      exact List.getElem_mem h
    exact (htx _ this : (os.getD j zeroOp).txn.size ≤ maxLen)
theorem Block.kind {w : World} {b : Nat} {os : List OpV} {t : TypeId} (h : Block w b (rowO os) t) (j : Nat) (k : Int) (hj : j < os.length) : Block (w.setCell ⟨b, j * 5, none⟩ (.int .i64 k)) b (rowO (kindAt os j k)) t := by
  have h1 := h.set (j * 5 + 0) (.int .i64 k)
  rw [rowO_set1 os j 0 (os.getD j zeroOp) { (os.getD j zeroOp) with kind := k } _ (by rw [List.getD_eq_getElem?_getD, List.getElem?_eq_getElem hj]; rfl) (by omega) rfl] at h1
  exact h1

set_option maxHeartbeats 4000000 in
theorem walk5 (a : Option Addr) (n c : Nat) (os : List OpV) (j k : Int) (w : World) (ha : ArgOps w a n os) :
    Calls Try.prog 5 #[.slice a n c, .int .i64 j, .int .i64 k] w fun e w' => e = .returned (.bool true) ∧ Below w.heap.size w w' := by
  have cB := bytes15 a n c os j k w ha
  have cT := tooBig_any a n c os 0 w ha
  have htx := ha.txn
  go_enter Try.func5, Try.ntmps5
  go_wp2_with fail
  refine cB.mono ?_
  rintro e w' ⟨⟨m, rfl, hm⟩, hw⟩
  have hw := hw.symm
  subst hw
  clear cB
  cases m
  · go_wp2
    go_ret
    exact ⟨rfl, Below.refl _ _⟩
  · have hn := hm rfl
    clear hm
    go_wp2_with fail
    refine cT.mono ?_
    rintro e w1 ⟨⟨m, rfl⟩, hb1⟩
    clear cT
    cases m
    · by_cases hj : 0 ≤ j ∧ j < n
      · obtain ⟨hj0, hj1⟩ := hj
        obtain ⟨jn, rfl⟩ := Int.eq_ofNat_of_zero_le hj0
        have hjl : jn < n := by omega
        have ha1 := ha.below hb1
        have hl := ha.1
        have cH1 := history_any a n c os w1 hn ha1
        have cH2 := fun W (hb : Below w1.heap.size w1 W) => history_any a n c os W hn (ha1.below hb)
        go_wp2_with fail
        refine cH1.mono ?_
        rintro e w2 ⟨v, rfl, hH1, hb2⟩
        obtain ⟨b1, hb1l, rfl, hB1⟩ := hH1.block (by omega)
        rw [hl]
        have HL := hide hl
        clear hl cH1 hH1 ha
        obtain ⟨o, ho⟩ : ∃ o, os[jn]? = some o := ⟨os[jn]'(by have := unhide HL; omega), List.getElem?_eq_getElem _⟩
        have cc := (hB1.op jn o ho).1
        have cf := hB1.frozen
        have hBK := hB1.kind jn k (by have := unhide HL; omega)
        have hbK := hb2.setCell (p := ⟨b1, jn * 5, none⟩) hb1l (.int .i64 k)
        clear hB1 hb2
        go_wp2_with fail
        refine (cH2 _ hbK).mono ?_
        rintro e w3 ⟨v, rfl, hH2, hb3⟩
        obtain ⟨b2, hb2l, rfl, hB2⟩ := hH2.block (by have := unhide HL; omega)
        have hll : os.length = n := unhide HL
        rw [hll]
        clear hll
        have hBK3 := hBK.below hb3 hBK.lt
        have hb12 : b1 ≠ b2 := by have := hBK.lt; omega
        have hbR := (hbK.trans (hb3.mono hbK.size)).setCell (p := ⟨b2, jn * 5, none⟩) (by have := hbK.size; simp at this hb2l ⊢; omega) (.int .i64 0)
        have cc2 := (hB2.op jn o ho).1
        have cf2 := hB2.frozen
        have hBR := hB2.kind jn 0 (by have := unhide HL; omega)
        have hBK4 := hBK3.other (a := ⟨b2, jn * 5, none⟩) (.int .i64 0) hb12
        have hHK := HistC.of_block (n := n) hBK4 (by rw [kindAt_len]; exact unhide HL) (by omega) (kindAt_tx os jn k (by have := unhide HL; omega) htx)
        have hHR := HistC.of_block (n := n) hBR (by rw [kindAt_len]; exact unhide HL) (by omega) (kindAt_tx os jn 0 (by have := unhide HL; omega) htx)
        have HHK := hide hHK
        have HHR := hide hHR
        clear cH2 hbK hb3 hBK hBK3 hBK4 hB2 hHK hHR cf cc ha1 hH2 hb2l hb1l ho htx
        go_wp2_with fail
        refine (implied_any _ n _ _ (unhide HHK) (by omega)).mono ?_
        rintro e w4 ⟨bi1, rfl, hbi1, hI1, hb4⟩
        clear cc2 cf2
        have hHR4 := (unhide HHR).below hb4
        have hb4' := hbR.trans (hb4.mono hbR.size)
        go_wp2_with fail
        refine (implied_any _ n _ _ hHR4 (by omega)).mono ?_
        rintro e w5 ⟨bi2, rfl, hbi2, hI2, hb5⟩
        have hb5' := hb4'.trans (hb5.mono hb4'.size)
        have hI15 := hI1.below hb5 hI1.lt
        have hfin : Below w.heap.size w w5 := hb1.trans (hb5'.mono hb1.size)
        clear HHK HHR hHR4 hb4 hb5 hb4' hbR hI1 hbi1 hbi2 hb5' hBR hb1
        have HJ : Hid (jn < os.length) := by have := unhide HL; unfold Hid; omega
        have cE := ends_any k w5
        cases hk : endsZ k
        · rw [hk] at cE
          have e1 : Imp.implied (!anyEnds (kindAt os jn k)) (txns (kindAt os jn k)) = Imp.implied (!anyEnds (kindAt os jn 0)) (txns (kindAt os jn 0)) := by
            rw [kindAt_not os jn k 0 (unhide HJ) hk (by decide), kindAt_txns os jn k (unhide HJ), kindAt_txns os jn 0 (unhide HJ)]
          have e2 : (Imp.implied (!anyEnds (kindAt os jn 0)) (txns (kindAt os jn 0))).length = n := by
            rw [Imp.implied_len, txns_len, kindAt_len, unhide HL]
          rw [e1] at hI15
          generalize Imp.implied (!anyEnds (kindAt os jn 0)) (txns (kindAt os jn 0)) = bs at *
          have HB := hide e2
          clear e1 e2 hk
          go_wp2_with (go_at_call 12; refine cE.mono ?_; rintro e w' ⟨rfl, hw⟩; have hw := hw.symm; subst hw)
          clear cE
          go_loopw [12] (fun i wr => ∃ (m : Nat), i = .int .i64 m ∧ m ≤ n ∧ Below w5.heap.size w5 wr) (fun i _ => n - (intOf i).toNat)
          case atStart => exact ⟨0, rfl, Nat.zero_le _, Below.refl _ _⟩
          case round =>
            obtain ⟨m, rfl, hm, hbx⟩ := hrel
            by_cases hml : m < n
            · have hml' : (m : Int) < (n : Int) := by omega
              have hmb : m < bs.length := by have := unhide HB; omega
              have ca := ((hI15.below hbx hI15.lt).cell m).trans (rowB_at bs m hmb)
              have cb := ((hI2.below hbx hI2.lt).cell m).trans (rowB_at bs m hmb)
              generalize bs.getD m false = x at *
              go_wp2
              go_quiet (fail)
              go_wp2
              go_roundw
              case rel => exact ⟨m + 1, by go_num, by omega, below_drewN hbx _⟩
              case measure => simp [intOf]; omega
            · go_wp2
              go_ret
              exact ⟨rfl, hfin.trans (hbx.mono hfin.size)⟩
        · rw [hk] at cE
          have e1 : Imp.implied (!anyEnds (kindAt os jn k)) (txns (kindAt os jn k)) = List.replicate n false := by
            rw [kindAt_ends os jn k (unhide HJ) hk]
            unfold Imp.implied
            rw [txns_len, kindAt_len, unhide HL]
            rfl
          rw [e1] at hI15
          clear e1 hk hI2
          go_wp2_with (go_at_call 12; refine cE.mono ?_; rintro e w' ⟨rfl, hw⟩; have hw := hw.symm; subst hw)
          clear cE
          go_loop [11] (fun i => ∃ (m : Nat), i = .int .i64 m ∧ m ≤ n) (fun i => n - (intOf i).toNat)
          case atStart => exact ⟨0, rfl, Nat.zero_le _⟩
          case round =>
            obtain ⟨m, rfl, hm⟩ := hrel
            by_cases hml : m < n
            · have ca := (hI15.cell m).trans (rowB_some _ m false (by rw [List.getElem?_replicate, if_pos hml]))
              go_wp2
              go_round
              case rel => exact ⟨m + 1, by go_num, by omega⟩
              case measure => simp [intOf]; omega
            · go_wp2
              go_ret
              exact ⟨rfl, hfin⟩
      · have hj' : ¬ (0 ≤ j ∧ j < (n : Int)) := hj
        clear ha
        go_wp2
        all_goals first
          | (exfalso; omega)
          | (go_ret; exact ⟨rfl, hb1⟩)
    · go_wp2
      go_ret
      exact ⟨rfl, hb1⟩

end Go.Proofs.Qxb6618844a
