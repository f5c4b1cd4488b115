/-
  THE WALK of ImpliedCommits (10).
-/
import Derived.Test.Qxb6618844aWalksC
set_option linter.unusedSimpArgs false
set_option linter.unusedVariables false
namespace Go.Proofs.Qxb6618844a
open Go.RowKit

theorem Block.setI {w : World} {b : Nat} {zs : List Int} {t : TypeId} (h : Block w b (rowI zs) t) (j : Nat) (x : Int) : Block (w.setCell ⟨b, j, none⟩ (.int .i64 x)) b (rowI (zs.set j x)) t := by
  have := h.set j (.int .i64 x)
  rwa [rowI_set] at this
theorem rowI_some (zs : List Int) (k : Nat) (z : Int) (h : zs[k]? = some z) : (rowI zs)[k]? = some (.int .i64 z) := by
  unfold rowI
  rw [List.getElem?_toArray, List.getElem?_map, h]
  rfl
theorem rowB_some (bs : List Bool) (k : Nat) (b : Bool) (h : bs[k]? = some b) : (rowB bs)[k]? = some (.bool b) := by
  unfold rowB
  rw [List.getElem?_toArray, List.getElem?_map, h]
  rfl

set_option maxHeartbeats 4000000 in
theorem implied_any (a : Option Addr) (n : Nat) (os : List OpV) (w : World) (hc : HistC w a n os) (hn : n ≤ 1048577) :
    Calls Try.prog 10 #[.slice a n n] w fun e w' => ∃ bi, e = .returned (.slice (some ⟨bi, 0, none⟩) n n) ∧ w.heap.size ≤ bi ∧ Block w' bi (rowB (Imp.implied (!anyEnds os) (txns os))) 4 ∧ Below w.heap.size w w' := by
  have hcnt : (Imp.idsOf (txns os)).length ≤ n := by have := Imp.idsOf_len (txns os); rw [txns_len, hc.1] at this; omega
  have cN := numbers_any a n os w hc hn
  have HN : Hid (∀ (W : World) (ia : Option Addr) (ic bo : Nat), Below w.heap.size w W → Block W bo (rowI (Imp.ofs (txns os))) 3 → _) := fun W ia ic bo hb hof => outcomes_any a n os ia ic bo W (hc.below hb) hn hof
  have HT : Hid ((txns os).length = n) := by unfold Hid; rw [txns_len]; exact hc.1
  have hmkI := mkI (Imp.idsOf (txns os)).length (by omega)
  have hmkB := mkB n hn
  have hmi : ∀ W : World, (Instr.makeInterface 42 (.slice a n n)).run Try.prog W = .ok (.iface 42 (.slice a n n)) W := fun W => run_makeInterface W 42 _ (by kernel_rfl)
  clear hc
  go_enter Try.func10, Try.ntmps10
  go_wp2_with (first
    | (go_at_call 16; refine cN.mono ?_; rintro e w1 ⟨ia, ic, bo, rfl, hbo, hof, hb1⟩)
    | (go_at_call 17; refine (unhide HN _ ia ic bo (hb1.alloc hb1.size _) (hof.alloc _)).mono ?_; rintro e w2 ⟨be, xs, rfl, hbe, hX, hxl, hxa, hb2⟩))
  have hN2 := (Block.new w1 #[.slice ia (Imp.idsOf (txns os)).length ic, .slice (some ⟨bo, 0, none⟩) n n] 45).below hb2 (by simp)
  have hof2 := (hof.alloc _).below hb2 (hof.alloc _).lt
  have hb2' : Below w.heap.size w w2 := (hb1.alloc hb1.size _).trans (hb2.mono (by simp; have := hb1.size; omega))
  clear cN HN hb2 hof hb1 hbe hbo hmi
  refine (inCommitted_any be _ xs w2 hxl (by omega) hX).mono ?_
  rintro e w3 ⟨bi, rfl, hbi, hI, hb3⟩
  have hN3 := hN2.below hb3 hN2.lt
  have hof3 := hof2.below hb3 hof2.lt
  have hX3 := hX.below hb3 hX.lt
  have hb3' : Below w.heap.size w w3 := hb2'.trans (hb3.mono hb2'.size)
  have c31 : w3.cell? ⟨w1.heap.size, 1, none⟩ = some (.slice (some ⟨bo, 0, none⟩) n n) := hN3.cell 1
  have hNl := hN3.lt
  have HXL := hide hxl
  have HXA := hide hxa
  clear hN2 hof2 hX hb3 hb2' hbi hxl hxa
  go_wp2
  clear hmkI
  go_loopw [29] (fun j wr => ∃ (k : Nat) (L : List Int), j = .int .i64 k ∧ k ≤ n ∧ Below w3.heap.size w3 wr ∧ Block wr w3.heap.size (rowI L) 3 ∧ Hid (Imp.LastIs (txns os) k L)) (fun j _ => n - (intOf j).toNat)
  case atStart => exact ⟨0, _, rfl, Nat.zero_le _, (Below.refl _ _).alloc (Nat.le_refl _) _, Block.new w3 _ 3, Imp.lastIs_zero _⟩
  case round =>
    obtain ⟨k, L, rfl, hk, hb, hL, hLi⟩ := hrel
    by_cases hlt : k < n
    · obtain ⟨t, ht⟩ : ∃ t, (txns os)[k]? = some t := ⟨(txns os)[k]'(by have := unhide HT; omega), List.getElem?_eq_getElem _⟩
      have hnl := Imp.idx_lt (txns os) t (List.mem_of_getElem? ht)
      have HST := hide (Imp.lastIs_step (txns os) k L t ht (unhide hLi))
      have hco : wr.cell? ⟨bo, k, none⟩ = some (.int .i64 (Imp.num (Imp.idsOf (txns os)) t : Int)) := ((hof3.below hb hof3.lt).cell k).trans (rowI_some _ k _ (Imp.ofs_at _ k t ht))
      have hLl : L.length = (Imp.idsOf (txns os)).length := (unhide hLi).1
      generalize Imp.num (Imp.idsOf (txns os)) t = m at *
      have hcl : wr.cell? ⟨w3.heap.size, m, none⟩ = some (.int .i64 (L.getD m 0)) := (hL.cell m).trans (rowI_at L m (by omega))
      have hfz := hL.frozen
      clear ht hX3 hI hmkB c31 hN3 hLl
      go_wp2
      go_roundw
      case rel => exact ⟨k + 1, _, by go_num, by omega, hb.setCell (Nat.le_refl _) _, hL.setI m (k : Int), unhide HST⟩
      case measure => simp [intOf]; omega
    · have hkn : k = n := by omega
      have HLF : Hid (Imp.LastIs (txns os) (txns os).length L) := by rw [Hid, unhide HT, ← hkn]; exact unhide hLi
      obtain ⟨wA, rfl⟩ : ∃ x, x = wr := ⟨wr, rfl⟩
      have hXA := hX3.below hb hX3.lt
      have hIA := hI.below hb hI.lt
      have hbA : Below w.heap.size w wA := hb3'.trans (hb.mono hb3'.size)
      clear hLi hkn hof3 hN3 c31 hX3 hI hb3'
      have hzA := hbA.size
      have hLl := hL.lt
      cases hE : anyEnds os
      · -- no operation's kind ends: each transaction's last place is marked
        have hx0 : Hid (∀ (m : Nat) (x : Int × Int), xs[m]? = some x → x.2 = 0) := fun m x h => by
          have h' := unhide HXA
          rw [hE] at h'
          rcases Decidable.em (x.2 = 0) with e | e
          · exact e
          · rw [any_at xs m x h e] at h'; cases h'
        have hin : Hid (∀ (m : Nat) (x : Int × Int), xs[m]? = some x → (rowB (xs.map fun x => inZ x.2 (anyEnd xs)))[m]? = some (.bool true)) := fun m x h => by
          have h' := unhide HXA
          rw [hE] at h'
          rw [rowB_some _ m _ (ins_at xs _ m x h), h']
          simp [inZ]
        have HF : Hid (∀ bs, Imp.Marks n L (Imp.idsOf (txns os)).length bs → bs = Imp.implied (!anyEnds os) (txns os)) := fun bs h => by
          rw [← unhide HT] at h
          rw [Imp.marks_final (txns os) L bs (unhide HLF) h, hE]
          rfl
        clear hE HXA
        go_wp2
        go_loopw [44] (fun j wr => ∃ (m : Nat) (bs : List Bool), j = .int .i64 m ∧ m ≤ (Imp.idsOf (txns os)).length ∧ Below wA.heap.size wA wr ∧ Block wr wA.heap.size (rowB bs) 4 ∧ Hid (Imp.Marks n L m bs)) (fun j _ => (Imp.idsOf (txns os)).length - (intOf j).toNat)
        case atStart => exact ⟨0, _, rfl, Nat.zero_le _, (Below.refl _ _).alloc (Nat.le_refl _) _, Block.new wA _ 4, Imp.marks_zero n L⟩
        case round =>
          obtain ⟨m, bs, rfl, hm, hbx, hB, hM⟩ := hrel
          by_cases hml : m < (Imp.idsOf (txns os)).length
          · have hkl : m < xs.length := by have := unhide HXL; omega
            obtain ⟨x, hx⟩ : ∃ x, xs[m]? = some x := ⟨xs[m]'hkl, List.getElem?_eq_getElem _⟩
            have hx1 := unhide hx0 m x hx
            have hci := ((hIA.below hbx hIA.lt).cell m).trans (unhide hin m x hx)
            obtain ⟨c0, c1⟩ := (hXA.below hbx hXA.lt).outc m x hx
            obtain ⟨x0, x1⟩ := x
            simp only at hx1
            subst hx1
            simp only at c0 c1
            obtain ⟨j, u, g1, _, _, g4⟩ := Imp.last_in (txns os) L (unhide HLF) m hml
            have hjn : j < n := by have := unhide HT; omega
            have hcL := ((hL.below hbx hL.lt).cell m).trans (rowI_some L m _ g1)
            have hbl : bs.length = n := (unhide hM).1
            have hcB : wr.cell? ⟨wA.heap.size, j, none⟩ = some (.bool (bs.getD j false)) := (hB.cell j).trans (rowB_at bs j (by omega))
            have hfz := hB.frozen
            have hBl := hB.lt
            have hil := lt_of_cell hci
            have hLx := lt_of_cell hcL
            have HST := hide (Imp.marks_step n L m bs j (unhide hM) g1)
            clear hx hx0 hin g1 g4 hIA hXA hbl HLF HF
            go_wp2
            go_roundw
            case rel => exact ⟨m + 1, _, by go_num, by omega, (hbx.setCell (Nat.le_refl _) _).alloc (by simp; exact hbx.size) _, (hB.setB j true).alloc _, unhide HST⟩
            case measure => simp [intOf]; omega
          · clear hx0 hin
            go_wp2
            go_ret
            have hmc : m = (Imp.idsOf (txns os)).length := by omega
            have hMf := unhide hM
            rw [hmc] at hMf
            rw [unhide HF bs hMf] at hB
            exact ⟨wA.heap.size, rfl, hzA, hB, hbA.trans (hbx.mono hzA)⟩
      · -- some operation's kind ends: nothing is marked
        have hin : Hid (∀ (m : Nat) (x : Int × Int), xs[m]? = some x → (rowB (xs.map fun x => inZ x.2 (anyEnd xs)))[m]? = some (.bool (x.2 == 1))) := fun m x h => by
          have h' := unhide HXA
          rw [hE] at h'
          rw [rowB_some _ m _ (ins_at xs _ m x h), h']
          simp [inZ]
        have HF : Hid (List.replicate n false = Imp.implied (!anyEnds os) (txns os)) := by
          unfold Hid
          rw [hE, ← unhide HT]
          rfl
        clear hE HXA HLF
        go_wp2
        go_loopw [44] (fun j wr => ∃ (m : Nat), j = .int .i64 m ∧ m ≤ (Imp.idsOf (txns os)).length ∧ Below wA.heap.size wA wr ∧ Block wr wA.heap.size (rowB (List.replicate n false)) 4) (fun j _ => (Imp.idsOf (txns os)).length - (intOf j).toNat)
        case atStart => exact ⟨0, rfl, Nat.zero_le _, (Below.refl _ _).alloc (Nat.le_refl _) _, Block.new wA _ 4⟩
        case round =>
          obtain ⟨m, rfl, hm, hbx, hB⟩ := hrel
          by_cases hml : m < (Imp.idsOf (txns os)).length
          · have hkl : m < xs.length := by have := unhide HXL; omega
            obtain ⟨x, hx⟩ : ∃ x, xs[m]? = some x := ⟨xs[m]'hkl, List.getElem?_eq_getElem _⟩
            have hci := ((hIA.below hbx hIA.lt).cell m).trans (unhide hin m x hx)
            obtain ⟨c0, c1⟩ := (hXA.below hbx hXA.lt).outc m x hx
            obtain ⟨x0, x1⟩ := x
            simp only at c0 c1 hci
            have hil := lt_of_cell hci
            clear hx hin hIA hXA
            by_cases h1 : x1 = 1
            · have h2 : (x1 == 1) = true := by simp [h1]
              have h3 : (x1 == 0) = false := by simp [h1]
              rw [h2] at hci
              clear h1 h2
              go_wp2
              go_roundw
              case rel => exact ⟨m + 1, by go_num, by omega, hbx.alloc hbx.size _, hB.alloc _⟩
              case measure => simp [intOf]; omega
            · have h2 : (x1 == 1) = false := by simp [h1]
              rw [h2] at hci
              clear h1 h2
              go_wp2
              go_roundw
              case rel => exact ⟨m + 1, by go_num, by omega, hbx.alloc hbx.size _, hB.alloc _⟩
              case measure => simp [intOf]; omega
          · clear hin
            go_wp2
            go_ret
            rw [unhide HF] at hB
            exact ⟨wA.heap.size, rfl, hzA, hB, hbA.trans (hbx.mono hzA)⟩

end Go.Proofs.Qxb6618844a
