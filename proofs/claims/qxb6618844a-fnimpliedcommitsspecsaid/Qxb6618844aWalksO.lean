/-
  THE WALK of outcomes (17).
-/
import Derived.Test.Qxb6618844aWalksN
set_option linter.unusedSimpArgs false
set_option linter.unusedVariables false
namespace Go.Proofs.Qxb6618844a
open Go.RowKit

def anyEnd (xs : List (Int × Int)) : Bool := xs.any fun x => x.2 != 0
def anyEnds (os : List OpV) : Bool := os.any fun o => endsZ o.kind

theorem Block.outc {w : World} {b : Nat} {xs : List (Int × Int)} {t : TypeId} (h : Block w b (rowE xs) t) (k : Nat) (x : Int × Int) (hx : xs[k]? = some x) :
    w.cell? ⟨b, k * 2, none⟩ = some (.int .i64 x.1) ∧ w.cell? ⟨b, k * 2 + 1, none⟩ = some (.int .i64 x.2) :=
  ⟨(h.cell _).trans (rowE_at xs k 0 x hx (by omega)), (h.cell _).trans (rowE_at xs k 1 x hx (by omega))⟩
theorem Block.setE1 {w : World} {b : Nat} {xs : List (Int × Int)} {t : TypeId} (h : Block w b (rowE xs) t) (k j : Nat) (x y : Int × Int) (v : Value) (hx : xs[k]? = some x) (hj : j < 2) (hs : (outCells x).set j v = outCells y) :
    Block (w.setCell ⟨b, k * 2 + j, none⟩ v) b (rowE (xs.set k y)) t := by
  have h1 := h.set (k * 2 + j) v
  rw [rowE_set1 xs k j x y v hx hj hs] at h1
  exact h1
/-- A whole outcome stored. -/
theorem Block.setE {w : World} {b : Nat} {xs : List (Int × Int)} {t : TypeId} (h : Block w b (rowE xs) t) (k : Nat) (x y : Int × Int) (hx : xs[k]? = some x) :
    Block ((w.setCell ⟨b, k * 2, none⟩ (.int .i64 y.1)).setCell ⟨b, k * 2 + 1, none⟩ (.int .i64 y.2)) b (rowE (xs.set k y)) t := by
  have hlt : k < xs.length := (List.getElem?_eq_some_iff.1 hx).1
  have h1 := h.setE1 k 0 x (y.1, x.2) (.int .i64 y.1) hx (by omega) rfl
  have h2 := h1.setE1 k 1 (y.1, x.2) y (.int .i64 y.2) (by rw [List.getElem?_set_self hlt]) (by omega) rfl
  rw [List.set_set] at h2
  exact h2
theorem any_set (xs : List (Int × Int)) (k : Nat) (y : Int × Int) (hk : k < xs.length) (hy : y.2 ≠ 0) : anyEnd (xs.set k y) = true := by
  unfold anyEnd
  rw [List.any_eq_true]
  exact ⟨y, List.mem_of_getElem? (List.getElem?_set_self hk), by simpa using hy⟩
theorem any_at (xs : List (Int × Int)) (k : Nat) (x : Int × Int) (hx : xs[k]? = some x) (hy : x.2 ≠ 0) : anyEnd xs = true := by
  unfold anyEnd
  rw [List.any_eq_true]
  exact ⟨x, List.mem_of_getElem? hx, by simpa using hy⟩
theorem anyEnds_take (os : List OpV) (k : Nat) (o : OpV) (ho : os[k]? = some o) : anyEnds (os.take (k + 1)) = (anyEnds (os.take k) || endsZ o.kind) := by
  unfold anyEnds
  rw [List.take_add_one, ho, List.any_append]
  simp

set_option maxHeartbeats 2000000 in
theorem outcomes_any (a : Option Addr) (n : Nat) (os : List OpV) (ia : Option Addr) (ic bo : Nat) (w : World) (hc : HistC w a n os) (hn : n ≤ 1048577) (hof : Block w bo (rowI (Imp.ofs (txns os))) 3) :
    Calls Try.prog 17 #[.iface 42 (.slice a n n), .agg #[.slice ia (Imp.idsOf (txns os)).length ic, .slice (some ⟨bo, 0, none⟩) n n]] w fun e w' =>
      ∃ (be : Nat) (xs : List (Int × Int)), e = .returned (.slice (some ⟨be, 0, none⟩) (Imp.idsOf (txns os)).length (Imp.idsOf (txns os)).length) ∧ w.heap.size ≤ be ∧ Block w' be (rowE xs) 54 ∧ xs.length = (Imp.idsOf (txns os)).length ∧ anyEnd xs = anyEnds os ∧ Below w.heap.size w w' := by
  obtain ⟨hl, htx, hcall⟩ := hc
  have hcnt : (Imp.idsOf (txns os)).length ≤ n := by have := Imp.idsOf_len (txns os); rw [txns_len] at this; omega
  have HNUM : Hid (∀ (k : Nat) (o : OpV), os[k]? = some o → Imp.num (Imp.idsOf (txns os)) o.txn.data.toList < (Imp.idsOf (txns os)).length) := fun k o ho => Imp.idx_lt _ _ (List.mem_of_getElem? (txns_at ho))
  have HOF : Hid (∀ (k : Nat) (o : OpV), os[k]? = some o → (rowI (Imp.ofs (txns os)))[k]? = some (.int .i64 (Imp.num (Imp.idsOf (txns os)) o.txn.data.toList : Int))) := fun k o ho => by
    unfold rowI
    rw [List.getElem?_toArray, List.getElem?_map, Imp.ofs_at _ k _ (txns_at ho)]
    rfl
  generalize (Imp.idsOf (txns os)).length = cnt at *
  generalize Imp.num (Imp.idsOf (txns os)) = num at *
  have hmk := mkE cnt (by omega)
  have hm1 := method_len a n n
  have hm2 := method_op a n n
  have cL := fun W => len_any a n n W
  have HC := hide hcall
  have HL := hide hl
  clear hcall hl htx
  go_enter Try.func17, Try.ntmps17
  go_wp2
  clear hmk
  have HF : Hid ((List.replicate cnt ((n : Int), (0 : Int))).length = cnt) := by unfold Hid; simp
  go_loopw [18] (fun j wr => ∃ (k : Nat), j = .int .i64 k ∧ k ≤ cnt ∧ Below w.heap.size w wr ∧ Block wr w.heap.size #[.slice ia cnt ic, .slice (some ⟨bo, 0, none⟩) n n] 45 ∧ Block wr (w.heap.size + 1) (rowE ((List.replicate cnt ((n : Int), (0 : Int))).take k ++ List.replicate (cnt - k) (0, 0))) 54) (fun j _ => cnt - (intOf j).toNat)
  case atStart =>
    refine ⟨0, rfl, Nat.zero_le _, ((Below.refl _ _).alloc (Nat.le_refl _) _).alloc (by simp) _, (Block.new w _ 45).alloc _, ?_⟩
    have h := Block.new (w.alloc (.cells #[.slice ia cnt ic, .slice (some ⟨bo, 0, none⟩) n n] 45)) (rowE (List.replicate cnt (0, 0))) 54
    simpa using h
  case round =>
    obtain ⟨k, rfl, hk, hb, hS, hE⟩ := hrel
    by_cases hlt : k < cnt
    · have hz := fill_at (List.replicate cnt ((n : Int), (0 : Int))) (0, 0) cnt k (unhide HF) hlt
      obtain ⟨c0, c1⟩ := hE.outc k (0, 0) hz
      have hfz := hE.frozen
      have HZ := hide hz
      clear hz HC HNUM HOF
      go_wp2_with (go_at_call 42; refine (cL _).mono ?_; rintro e w' ⟨rfl, hw⟩; have hw := hw.symm; subst hw)
      go_roundw
      case rel =>
        refine ⟨k + 1, by go_num, by omega, hb.setCell (by simp) _, hS.other _ (by simp), ?_⟩
        have h := hE.setE1 k 0 (0, 0) ((n : Int), 0) (.int .i64 n) (unhide HZ) (by omega) rfl
        rw [fill_set _ (0, 0) ((n : Int), 0) cnt k (unhide HF) hlt (by simp [hlt])] at h
        exact h
      case measure => simp [intOf]; omega
    · rw [fill_all _ (0, 0) cnt k (unhide HF) (by omega)] at hE
      have d1 : wr.cell? ⟨w.heap.size, 1, none⟩ = some (.slice (some ⟨bo, 0, none⟩) n n) := hS.cell 1
      obtain ⟨wA, rfl⟩ : ∃ x, x = wr := ⟨wr, rfl⟩
      clear cL hm1
      go_wp2
      go_loopw [31] (fun j wr => ∃ (m : Nat) (xs : List (Int × Int)), j = .int .i64 m ∧ m ≤ n ∧ Below w.heap.size w wr ∧ Block wr (w.heap.size + 1) (rowE xs) 54 ∧ Hid (xs.length = cnt) ∧ Hid (anyEnd xs = anyEnds (os.take m))) (fun j _ => n - (intOf j).toNat)
      case atStart =>
        refine ⟨0, _, rfl, Nat.zero_le _, hb, hE, unhide HF, ?_⟩
        simp [Hid, anyEnd, anyEnds]
      case round =>
        obtain ⟨m, xs, rfl, hm, hbx, hX, hxl, hxa⟩ := hrel
        by_cases hml : m < n
        · have hkl : m < os.length := by have := unhide HL; omega
          obtain ⟨o, ho⟩ : ∃ o, os[m]? = some o := ⟨os[m]'hkl, List.getElem?_eq_getElem _⟩
          have cO := unhide HC wr m o hbx ho
          have hnl := unhide HNUM m o ho
          have hcz : wr.cell? ⟨bo, m, none⟩ = some (.int .i64 (num o.txn.data.toList : Int)) := ((hof.below hbx hof.lt).cell m).trans (unhide HOF m o ho)
          have hat := anyEnds_take os m o ho
          generalize num o.txn.data.toList = t at *
          have htl : t < xs.length := by have := unhide hxl; omega
          obtain ⟨x, hx⟩ : ∃ x, xs[t]? = some x := ⟨xs[t]'htl, List.getElem?_eq_getElem _⟩
          obtain ⟨x0, x1⟩ := x
          obtain ⟨c0, c1⟩ := hX.outc t _ hx
          simp only at c0 c1
          have hfz := hX.frozen
          have HX := hide hx
          have HAT := hide hat
          clear hx hat HC HNUM HOF ho d1 hS hE hb
          by_cases he : x1 = 0
          · have h0 : (x1 != 0) = false := by simp [he]
            by_cases k2 : o.kind = 2
            · have hk2 : (o.kind == 2) = true := by simp [k2]
              have KK := hide k2
              clear k2 he
              go_wp2_with (go_at_call 43; refine cO.mono ?_; rintro e w' ⟨rfl, q, rfl⟩)
              go_roundw
              case rel =>
                refine ⟨m + 1, xs.set t ((m : Int), 1), by go_num, by omega, ((below_drewN hbx q).setCell (by simp) _).setCell (by simp) _, (hX.drewN q).setE t (x0, x1) ((m : Int), 1) (unhide HX), ?_, ?_⟩
                · unfold Hid; rw [List.length_set]; exact unhide hxl
                · unfold Hid
                  rw [any_set xs t _ htl (by simp), unhide HAT, unhide KK]
                  simp [endsZ]
              case measure => simp [intOf]; omega
            · by_cases k3 : o.kind = 3
              · have hk2 : (o.kind == 2) = false := by simp [k2]
                have hk3 : (o.kind == 3) = true := by simp [k3]
                have KK := hide k3
                clear k2 k3 he
                go_wp2_with (go_at_call 43; refine cO.mono ?_; rintro e w' ⟨rfl, q, rfl⟩)
                go_roundw
                case rel =>
                  refine ⟨m + 1, xs.set t ((m : Int), 2), by go_num, by omega, ((below_drewN hbx q).setCell (by simp) _).setCell (by simp) _, (hX.drewN q).setE t (x0, x1) ((m : Int), 2) (unhide HX), ?_, ?_⟩
                  · unfold Hid; rw [List.length_set]; exact unhide hxl
                  · unfold Hid
                    rw [any_set xs t _ htl (by simp), unhide HAT, unhide KK]
                    simp [endsZ]
                case measure => simp [intOf]; omega
              · have hk2 : (o.kind == 2) = false := by simp [k2]
                have hk3 : (o.kind == 3) = false := by simp [k3]
                have KK : Hid (endsZ o.kind = false) := by simp [Hid, endsZ, k2, k3]
                clear k2 k3 he
                go_wp2_with (go_at_call 43; refine cO.mono ?_; rintro e w' ⟨rfl, q, rfl⟩)
                go_roundw
                case rel =>
                  refine ⟨m + 1, xs, by go_num, by omega, below_drewN hbx q, hX.drewN q, hxl, ?_⟩
                  unfold Hid
                  rw [unhide HAT, unhide KK, unhide hxa]
                  simp
                case measure => simp [intOf]; omega
          · have h0 : (x1 != 0) = true := by simp [he]
            have HE := hide he
            clear he cO
            go_wp2
            go_roundw
            case rel =>
              refine ⟨m + 1, xs, by go_num, by omega, hbx, hX, hxl, ?_⟩
              have h := any_at xs t (x0, x1) (unhide HX) (unhide HE)
              unfold Hid
              rw [unhide HAT, ← unhide hxa, h]
              simp
            case measure => simp [intOf]; omega
        · clear HC HNUM HOF
          go_wp2
          go_ret
          refine ⟨w.heap.size + 1, xs, rfl, by omega, hX, unhide hxl, ?_, hbx⟩
          have h := unhide hxa
          rw [List.take_of_length_le (by have := unhide HL; omega)] at h
          exact h

end Go.Proofs.Qxb6618844a
