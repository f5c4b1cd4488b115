/-
  FnImpliedCommitsAppend (3): the walk.
-/
import Derived.Test.Qxb6618844aKindAt
import Derived.Test.Qxb6618844aWalksM
set_option linter.unusedSimpArgs false
set_option linter.unusedVariables false
namespace Go.Proofs.Qxb6618844a
open Go.RowKit

theorem app_at (os : List OpV) (o0 : OpV) (k : Nat) (o : OpV) (h : os[k]? = some o) : (os ++ [o0])[k]? = some o := by
  rw [List.getElem?_append_left (List.getElem?_eq_some_iff.1 h).1]; exact h
theorem app_last (os : List OpV) (o0 : OpV) (n : Nat) (h : os.length = n) : (os ++ [o0])[n]? = some o0 := by
  rw [List.getElem?_append_right (by omega), h]; simp
theorem app_ends (os : List OpV) (o0 : OpV) : anyEnds (os ++ [o0]) = (anyEnds os || endsZ o0.kind) := by
  unfold anyEnds; rw [List.any_append]; simp
theorem app_txns (os : List OpV) (o0 : OpV) : txns (os ++ [o0]) = txns os ++ [o0.txn.data.toList] := by simp [txns]
/-- What one more operation does to the answers, where no kind ends. -/
theorem app_mark (ts : List (List UInt8)) (t u : List UInt8) (k : Nat) (h : ts[k]? = some u) :
    (Imp.implied true (ts ++ [t])).getD k false = ((Imp.implied true ts).getD k false && (u != t)) := by
  have hk : k < ts.length := (List.getElem?_eq_some_iff.1 h).1
  have h1 := Imp.implied_at true (ts ++ [t]) k u (by rw [List.getElem?_append_left hk]; exact h)
  have h2 := Imp.implied_at true ts k u h
  rw [List.getD_eq_getElem?_getD, List.getD_eq_getElem?_getD, h1, h2]
  rw [List.drop_append_of_le_length (by omega)]
  simp only [Option.getD_some, Bool.true_and]
  rw [Bool.eq_iff_iff]
  simp
theorem app_own (ts : List (List UInt8)) (t : List UInt8) : (Imp.implied true (ts ++ [t])).getD ts.length false = true := by
  have h1 := Imp.implied_at true (ts ++ [t]) ts.length t (by simp)
  rw [List.getD_eq_getElem?_getD, h1]
  simp

theorem neq_str (x y : ByteArray) : (x.data.toList != y.data.toList) = !(x.toList == y.toList) := by
  rw [ByteArray.toList_eq, ByteArray.toList_eq]
  rfl

theorem below_setOp {B : Nat} {a w : World} (h : Below B a w) (b k : Nat) (hb : B ≤ b) (kind : Int) (txn : ByteArray) (site : Int) (sg : Bool) (ia : Option Addr) (il ic : Nat) :
    Below B a (((((w.setCell ⟨b, k * 5, none⟩ (.int .i64 kind)).setCell ⟨b, k * 5 + 1, none⟩ (.string txn)).setCell ⟨b, k * 5 + 2, none⟩ (.int .i64 site)).setCell ⟨b, k * 5 + 3, none⟩ (.bool sg)).setCell ⟨b, k * 5 + 4, none⟩ (.slice ia il ic)) := by
  have h1 := h.setCell (p := ⟨b, k * 5, none⟩) hb (.int .i64 kind)
  have h2 := h1.setCell (p := ⟨b, k * 5 + 1, none⟩) hb (.string txn)
  have h3 := h2.setCell (p := ⟨b, k * 5 + 2, none⟩) hb (.int .i64 site)
  have h4 := h3.setCell (p := ⟨b, k * 5 + 3, none⟩) hb (.bool sg)
  exact h4.setCell (p := ⟨b, k * 5 + 4, none⟩) hb (.slice ia il ic)

set_option maxHeartbeats 1000000 in
theorem walk3 (a : Option Addr) (n c : Nat) (os : List OpV) (kind0 : Int) (txn0 : ByteArray) (site0 : Int) (sg0 : Bool) (ia0 : Option Addr) (il0 ic0 : Nat) (w : World) (ha : ArgOps w a n os) (ho0 : ItemsOK w ⟨kind0, txn0, site0, sg0, ia0, il0, ic0⟩) :
    Calls Try.prog 3 #[.slice a n c, .agg #[.int .i64 kind0, .string txn0, .int .i64 site0, .bool sg0, .slice ia0 il0 ic0]] w fun e w' => e = .returned (.bool true) ∧ Below w.heap.size w w' := by
  have hb0 : Below w.heap.size w (w.alloc (.cells #[.int .i64 kind0, .string txn0, .int .i64 site0, .bool sg0, .slice ia0 il0 ic0] 25)) := (Below.refl _ _).alloc (Nat.le_refl _) _
  have hX0 := Block.new w #[.int .i64 kind0, .string txn0, .int .i64 site0, .bool sg0, .slice ia0 il0 ic0] 25
  have cB := bytes6 a n c os kind0 txn0 site0 sg0 ia0 il0 ic0 _ (ha.below hb0) (ho0.below hb0)
  go_enter Try.func3, Try.ntmps3
  go_wp2_with fail
  refine cB.mono ?_
  rintro e w1 ⟨⟨m, rfl, hm⟩, hb1⟩
  clear cB
  have hX1 := hX0.below hb1 hX0.lt
  have hb1' : Below w.heap.size w w1 := hb0.trans (hb1.mono (by simp))
  clear hX0 hb0 hb1
  cases m
  · go_wp2
    go_ret
    exact ⟨rfl, hb1'⟩
  · have hn := hm rfl
    clear hm
    have hA1 := addOp_any 0 ⟨kind0, txn0, site0, sg0, ia0, il0, ic0⟩ w1 (ho0.below hb1')
    unfold OpV.val at hA1
    simp only at hA1
    have e0 : w1.cell? ⟨w.heap.size, 0, none⟩ = some _ := hX1.cell 0
    have e1 : w1.cell? ⟨w.heap.size, 1, none⟩ = some _ := hX1.cell 1
    have e2 : w1.cell? ⟨w.heap.size, 2, none⟩ = some _ := hX1.cell 2
    have e3 : w1.cell? ⟨w.heap.size, 3, none⟩ = some _ := hX1.cell 3
    have e4 : w1.cell? ⟨w.heap.size, 4, none⟩ = some _ := hX1.cell 4
    go_wp2_with fail
    refine hA1.mono ?_
    rintro e w2 ⟨⟨m', rfl⟩, hb2⟩
    clear hA1 e0 e1 e2 e3 e4
    have hX2 := hX1.below hb2 hX1.lt
    have hb2' := hb1'.trans (hb2.mono hb1'.size)
    clear hX1 hb2 hb1'
    go_wp2_with fail
    refine (tooBig_any a n c os m' w2 (ha.below hb2')).mono ?_
    rintro e w3 ⟨⟨m, rfl⟩, hb3⟩
    have hX3 := hX2.below hb3 hX2.lt
    have hb3' := hb2'.trans (hb3.mono hb2'.size)
    clear hX2 hb3 hb2'
    cases m
    · go_wp2_with fail
      refine (history_any a n c os w3 hn (ha.below hb3')).mono ?_
      rintro e w4 ⟨v, rfl, hH, hb4⟩
      have hX4 := hX3.below hb4 hX3.lt
      have hb4' := hb3'.trans (hb4.mono hb3'.size)
      have hl := ha.1
      obtain ⟨a', rfl, hHC⟩ := hH.calls (by omega) ha.txn
      rw [hl] at hHC ⊢
      clear hX3 hb4 hb3' hH
      go_wp2_with fail
      refine (implied_any a' n os w4 hHC (by omega)).mono ?_
      rintro e w5 ⟨bi, rfl, hbi, hI, hb5⟩
      have hX5 := hX4.below hb5 hX4.lt
      have hb5' := hb4'.trans (hb5.mono hb4'.size)
      clear hX4 hb5 hb4' hHC hbi
      have hmk : ∀ W : World, (Instr.makeSlice 31 (.int .i64 ((n : Int) + 1)) (.int .i64 ((n : Int) + 1))).run Try.prog W = .ok (.slice (some ⟨W.heap.size, 0, none⟩) (n + 1) (n + 1)) (W.alloc (.cells (rowO (List.replicate (n + 1) zeroOp)) 36)) := fun W => by
        have := mkO (n + 1) (by omega) W
        rwa [show ((n + 1 : Nat) : Int) = (n : Int) + 1 by omega] at this
      have HL := hide hl
      have HA := hide ha
      have HO := hide ho0
      clear hl ha ho0
      go_wp2
      have HL2 : Hid ((os ++ [(⟨kind0, txn0, site0, sg0, ia0, il0, ic0⟩ : OpV)]).length = n + 1) := by unfold Hid; rw [List.length_append, unhide HL]; rfl
      have hz5 := hb5'.size
      clear hmk
      go_loopw [7] (fun j wr => ∃ (k : Nat), j = .int .i64 k ∧ k ≤ n ∧ Below w5.heap.size w5 wr ∧ Block wr w5.heap.size (rowO ((os ++ [(⟨kind0, txn0, site0, sg0, ia0, il0, ic0⟩ : OpV)]).take k ++ List.replicate (n + 1 - k) zeroOp)) 36) (fun j _ => n - (intOf j).toNat)
      case atStart => exact ⟨0, rfl, Nat.zero_le _, (Below.refl _ _).alloc (Nat.le_refl _) _, by simpa using Block.new w5 (rowO (List.replicate (n + 1) zeroOp)) 36⟩
      case round =>
        obtain ⟨k, rfl, hk, hb, hB⟩ := hrel
        have hz := fill_at (os ++ [(⟨kind0, txn0, site0, sg0, ia0, il0, ic0⟩ : OpV)]) zeroOp (n + 1) k (unhide HL2) (by omega)
        have HZ := hide hz
        have hBl := hB.lt
        clear hz
        by_cases hlt : k < n
        · obtain ⟨_, _, h3⟩ := unhide HA
          rcases h3 with h3 | ⟨b, off, rfl, hall⟩
          · omega
          obtain ⟨o, ho⟩ : ∃ o, os[k]? = some o := ⟨os[k]'(by have := unhide HL; omega), List.getElem?_eq_getElem _⟩
          have hop := (hall k o ho).2.below (hb5'.trans (hb.mono hz5))
          obtain ⟨c0, c1, c2, c3, c4⟩ := hop
          have cZ := zzOp_any o wr
          unfold OpV.val at cZ
          have HK := hide (app_at os (⟨kind0, txn0, site0, sg0, ia0, il0, ic0⟩ : OpV) k o ho)
          clear HA hall ho hI hX5 HO
          go_wp2_with (go_at_call 11; refine cZ.mono ?_; rintro e w' ⟨rfl, hb'⟩; have hB' := hB.below hb' hBl; obtain ⟨e0, e1, e2, e3, e4⟩ := hB'.op k zeroOp (unhide HZ); have hfr := hB'.frozen)
          go_roundw
          case rel =>
            refine ⟨k + 1, by go_num, by omega, ?_, ?_⟩
            · exact (((((hb.trans (hb'.mono hb.size)).setCell (Nat.le_refl _) _).setCell (Nat.le_refl _) _).setCell (Nat.le_refl _) _).setCell (Nat.le_refl _) _).setCell (Nat.le_refl _) _
            · have h := hB'.setOp k zeroOp o (unhide HZ)
              rw [fill_set _ zeroOp o (n + 1) k (unhide HL2) (by omega) (unhide HK)] at h
              exact h
          case measure => simp [intOf]; omega
        · have hkn : k = n := by omega
          subst hkn
          have hwl := hX5.lt
          have hil := hI.lt
          have hX6 := hX5.below hb hX5.lt
          have e0 : wr.cell? ⟨w.heap.size, 0, none⟩ = some _ := hX6.cell 0
          have e1 : wr.cell? ⟨w.heap.size, 1, none⟩ = some _ := hX6.cell 1
          have e2 : wr.cell? ⟨w.heap.size, 2, none⟩ = some _ := hX6.cell 2
          have e3 : wr.cell? ⟨w.heap.size, 3, none⟩ = some _ := hX6.cell 3
          have e4 : wr.cell? ⟨w.heap.size, 4, none⟩ = some _ := hX6.cell 4
          have cZ := zzOp_any (⟨kind0, txn0, site0, sg0, ia0, il0, ic0⟩ : OpV) wr
          unfold OpV.val at cZ
          simp only at cZ
          go_wp2_with fail
          refine cZ.mono ?_
          rintro e w6 ⟨rfl, hb6⟩
          have hB6 := hB.below hb6 hBl
          have hX7 := hX6.below hb6 hX6.lt
          have hI6 := (hI.below hb hI.lt).below hb6 (hI.below hb hI.lt).lt
          obtain ⟨f0, f1, f2, f3, f4⟩ := hB6.op k zeroOp (unhide HZ)
          have hfr := hB6.frozen
          have hb6' := hb.trans (hb6.mono hb.size)
          have hS := hB6.setOp k zeroOp (⟨kind0, txn0, site0, sg0, ia0, il0, ic0⟩ : OpV) (unhide HZ)
          rw [fill_set _ zeroOp _ (k + 1) k (unhide HL2) (by omega) (app_last os _ k (unhide HL)), fill_all _ zeroOp (k + 1) (k + 1) (unhide HL2) (Nat.le_refl _)] at hS
          have HS := hide hS
          have HB6 := hide hb6'
          clear hX5 hX6 hI hB hB6 hb6 hb6' hS e0 e1 e2 e3 e4 cZ hb HZ
          go_wp2_with fail
          have h67 := below_setOp (Below.refl w5.heap.size w6) w5.heap.size k (Nat.le_refl _) kind0 txn0 site0 sg0 ia0 il0 ic0
          have hX8 := hX7.below h67 hwl
          have hI8 := hI6.below h67 hil
          have hb7 := hb5'.trans (((unhide HB6).trans h67).mono hz5)
          have htx2 : ∀ o ∈ os ++ [(⟨kind0, txn0, site0, sg0, ia0, il0, ic0⟩ : OpV)], o.txn.size ≤ maxLen := by
            intro o ho
            rcases List.mem_append.1 ho with h | h
            · exact (unhide HA).txn o h
            · have e : o = ⟨kind0, txn0, site0, sg0, ia0, il0, ic0⟩ := by simpa using h
              subst e
              have := (unhide HO).1
              unfold maxLen
              simp only at this ⊢
              omega
          refine (implied_any (some ⟨w5.heap.size, 0, none⟩) (k + 1) _ _ (HistC.of_block (n := k + 1) (unhide HS) (unhide HL2) (by omega) htx2) (by omega)).mono ?_
          rintro e w8 ⟨bi2, rfl, hbi2, hI2, hb8⟩
          have hX9 := hX8.below hb8 hX8.lt
          have hI9 := hI8.below hb8 hI8.lt
          have hb8' : Below w.heap.size w w8 := hb7.trans (hb8.mono hb7.size)
          have hA8 := (unhide HA).below hb8'
          have e0 : w8.cell? ⟨w.heap.size, 0, none⟩ = some (.int .i64 kind0) := hX9.cell 0
          have e1 : w8.cell? ⟨w.heap.size, 1, none⟩ = some (.string txn0) := hX9.cell 1
          have cE := ends_any kind0 w8
          have cY := anyEnds_any a k c os w8 hA8
          rw [show (os.any fun o => endsZ o.kind) = anyEnds os from rfl] at cY
          have hAE := app_ends os (⟨kind0, txn0, site0, sg0, ia0, il0, ic0⟩ : OpV)
          simp only at hAE
          have HAE := hide hAE
          have HB8 := hide hb8'
          have HA8 := hide hA8
          clear hAE hA8 HA HO hb8 hb7 hX7 hX8 hI6 hI8 h67 HS HB6 f0 f1 f2 f3 f4 hfr htx2 hb8' hbi2
          by_cases hend : endsZ kind0 = true ∨ anyEnds os = true
          · have e1' : Imp.implied (!anyEnds (os ++ [(⟨kind0, txn0, site0, sg0, ia0, il0, ic0⟩ : OpV)])) (txns (os ++ [(⟨kind0, txn0, site0, sg0, ia0, il0, ic0⟩ : OpV)])) = List.replicate (k + 1) false := by
              have h : anyEnds (os ++ [(⟨kind0, txn0, site0, sg0, ia0, il0, ic0⟩ : OpV)]) = true := by
                rw [unhide HAE]
                rcases hend with h | h <;> simp [h]
              rw [h]
              unfold Imp.implied
              rw [txns_len, unhide HL2]
              rfl
            rw [e1'] at hI2
            clear e1' hI9 HA8 HAE
            cases hk0 : endsZ kind0
            · have hae : anyEnds os = true := by
                rcases hend with h | h
                · rw [hk0] at h; cases h
                · exact h
              rw [hk0] at cE
              rw [hae] at cY
              clear hk0 hae hend
              go_wp2_with (first
                | (go_at_call 12; refine cE.mono ?_; rintro e w' ⟨rfl, hw⟩; have hw := hw.symm; subst hw)
                | (go_at_call 13; refine cY.mono ?_; rintro e w' ⟨rfl, hw⟩; have hw := hw.symm; subst hw))
              clear cE cY
              go_loop [9] (fun i => ∃ (m : Nat), i = .int .i64 m ∧ m ≤ k + 1) (fun i => k + 1 - (intOf i).toNat)
              case atStart => exact ⟨0, rfl, Nat.zero_le _⟩
              case round =>
                obtain ⟨m, rfl, hm⟩ := hrel
                by_cases hml : m < k + 1
                · have ca := (hI2.cell m).trans (rowB_some _ m false (by rw [List.getElem?_replicate, if_pos hml]))
                  go_wp2
                  go_round
                  case rel => exact ⟨m + 1, by go_num, by omega⟩
                  case measure => simp [intOf]; omega
                · go_wp2
                  go_ret
                  exact ⟨rfl, unhide HB8⟩
            · rw [hk0] at cE
              clear hk0 hend cY
              go_wp2_with (go_at_call 12; refine cE.mono ?_; rintro e w' ⟨rfl, hw⟩; have hw := hw.symm; subst hw)
              clear cE
              go_loop [9] (fun i => ∃ (m : Nat), i = .int .i64 m ∧ m ≤ k + 1) (fun i => k + 1 - (intOf i).toNat)
              case atStart => exact ⟨0, rfl, Nat.zero_le _⟩
              case round =>
                obtain ⟨m, rfl, hm⟩ := hrel
                by_cases hml : m < k + 1
                · have ca := (hI2.cell m).trans (rowB_some _ m false (by rw [List.getElem?_replicate, if_pos hml]))
                  go_wp2
                  go_round
                  case rel => exact ⟨m + 1, by go_num, by omega⟩
                  case measure => simp [intOf]; omega
                · go_wp2
                  go_ret
                  exact ⟨rfl, unhide HB8⟩
          · have hk0 : endsZ kind0 = false := by
              cases h : endsZ kind0
              · rfl
              · exact absurd (.inl h) hend
            have hae : anyEnds os = false := by
              cases h : anyEnds os
              · rfl
              · exact absurd (.inr h) hend
            rw [hk0] at cE
            rw [hae] at cY
            have h2 : anyEnds (os ++ [(⟨kind0, txn0, site0, sg0, ia0, il0, ic0⟩ : OpV)]) = false := by rw [unhide HAE, hk0, hae]; rfl
            rw [h2, app_txns] at hI2
            rw [hae] at hI9
            simp only [Bool.not_false] at hI2 hI9
            have HT : Hid ((txns os).length = k) := by unfold Hid; rw [txns_len]; exact unhide HL
            have cbk : w8.cell? ⟨bi2, k, none⟩ = some (.bool true) := by
              have h := rowB_at (Imp.implied true (txns os ++ [txn0.data.toList])) k (by rw [Imp.implied_len, List.length_append, unhide HT]; simp)
              rw [← unhide HT, app_own, unhide HT] at h
              exact (hI2.cell k).trans h
            clear hk0 hae h2 hend HAE
            go_wp2_with (first
              | (go_at_call 12; refine cE.mono ?_; rintro e w' ⟨rfl, hw⟩; have hw := hw.symm; subst hw)
              | (go_at_call 13; refine cY.mono ?_; rintro e w' ⟨rfl, hw⟩; have hw := hw.symm; subst hw))
            clear cE cY cbk
            go_loopw [10] (fun i wr => ∃ (m : Nat), i = .int .i64 m ∧ m ≤ k ∧ Below w8.heap.size w8 wr) (fun i _ => k - (intOf i).toNat)
            case atStart => exact ⟨0, rfl, Nat.zero_le _, Below.refl _ _⟩
            case round =>
              obtain ⟨m, rfl, hm, hbx⟩ := hrel
              by_cases hml : m < k
              · have hml' : (m : Int) < (k : Int) := by omega
                obtain ⟨_, _, h3⟩ := unhide HA8
                rcases h3 with h3 | ⟨b, off, rfl, hall⟩
                · omega
                obtain ⟨o, ho⟩ : ∃ o, os[m]? = some o := ⟨os[m]'(by have := unhide HL; omega), List.getElem?_eq_getElem _⟩
                have hct := ((hall m o ho).2.below hbx).2.1
                have hmk := app_mark (txns os) txn0.data.toList _ m (txns_at ho)
                have cb := ((hI2.below hbx hI2.lt).cell m).trans (rowB_at _ m (by rw [Imp.implied_len, List.length_append, unhide HT]; simp; omega))
                have ca := ((hI9.below hbx hI9.lt).cell m).trans (rowB_at _ m (by rw [Imp.implied_len, unhide HT]; omega))
                have e1x : wr.cell? ⟨w.heap.size, 1, none⟩ = some (.string txn0) := (hX9.below hbx hX9.lt).cell 1
                rw [hmk] at cb
                generalize (Imp.implied true (txns os)).getD m false = A at *
                clear hmk hall HA8 hI2 hI9 hX9 e0 e1 ho
                cases A
                · rw [Bool.false_and] at cb
                  go_wp2
                  go_quiet (fail)
                  go_wp2
                  go_roundw
                  case rel => exact ⟨m + 1, by go_num, by omega, below_drewN hbx _⟩
                  case measure => simp [intOf]; omega
                · rw [Bool.true_and, neq_str] at cb
                  go_wp2
                  go_quiet (fail)
                  go_wp2
                  go_roundw
                  case rel => exact ⟨m + 1, by go_num, by omega, below_drewN hbx _⟩
                  case measure => simp [intOf]; omega
              · go_wp2
                go_ret
                exact ⟨rfl, (unhide HB8).trans (hbx.mono (unhide HB8).size)⟩
    · go_wp2
      go_ret
      exact ⟨rfl, hb3'⟩

end Go.Proofs.Qxb6618844a
