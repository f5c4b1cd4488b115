/-
  THE WALK of numbers (16).
-/
import Derived.Test.Qxb6618844aParts
set_option linter.unusedSimpArgs false
set_option linter.unusedVariables false
namespace Go.Proofs.Qxb6618844a
open Go.RowKit Go.Maps

theorem method_len (a : Option Addr) (n c : Nat) (w : World) : (method 184 42 (.slice a n c) "Len").run Try.prog w = .ok (42, .slice a n c) w := by kernel_rfl
theorem method_op (a : Option Addr) (n c : Nat) (w : World) : (method 184 42 (.slice a n c) "Op").run Try.prog w = .ok (43, .slice a n c) w := by kernel_rfl

/-- A history's operations can be asked for, one by one, as long as nothing of w has turned. -/
def HistC (w : World) (a : Option Addr) (n : Nat) (os : List OpV) : Prop :=
  os.length = n ∧ (∀ o ∈ os, o.txn.size ≤ maxLen) ∧ ∀ (W : World) (k : Nat) (o : OpV), Below w.heap.size w W → os[k]? = some o →
    Calls Try.prog 43 #[.slice a n n, .int .i64 (k : Int)] W fun e w' => e = .returned (.tuple #[.int .i64 o.kind, .string o.txn, .int .i64 o.il]) ∧ ∃ q, w' = W.drewN q
theorem HistC.below {w w' : World} {a : Option Addr} {n : Nat} {os : List OpV} (h : HistC w a n os) (hb : Below w.heap.size w w') : HistC w' a n os :=
  ⟨h.1, h.2.1, fun W k o hW ho => h.2.2 W k o (hb.trans (hW.mono hb.size)) ho⟩
theorem Hist.calls {w : World} {B : Nat} {v : Value} {os : List OpV} (h : Hist w B v os) (hn : os.length ≤ 1048577) (htx : ∀ o ∈ os, o.txn.size ≤ maxLen) : ∃ a, v = .slice a os.length os.length ∧ HistC w a os.length os := by
  rcases h with ⟨rfl, rfl⟩ | ⟨b, hb, rfl, hB⟩
  · exact ⟨none, rfl, rfl, htx, fun W k o _ ho => by simp at ho⟩
  · exact ⟨some ⟨b, 0, none⟩, rfl, rfl, htx, fun W k o hW ho => op_any b os.length os.length k os o 36 W (hB.below hW hB.lt) ho (List.getElem?_eq_some_iff.1 ho).1 hn⟩

/-- The transactions' identifiers, as bytes. -/
def txns (os : List OpV) : List (List UInt8) := os.map fun o => o.txn.data.toList
theorem txns_at {os : List OpV} {k : Nat} {o : OpV} (h : os[k]? = some o) : (txns os)[k]? = some o.txn.data.toList := by simp [txns, h]
theorem txns_len (os : List OpV) : (txns os).length = os.length := by simp [txns]

theorem law : Keyed Try.prog 9 := string_keyed Try.underlying9
theorem zeroE (w : World) : (zeroValue 3).run Try.prog w = .ok (.int .i64 0) w := by kernel_rfl
theorem info9 : (Try.prog.info? 9).map (fun i => (i.zero, i.size, i.bytes)) = some (some (.string ⟨#[]⟩), 1, 16) := by kernel_rfl

theorem rowI_fill (zs : List Int) (n k : Nat) (hl : zs.length = n) (hk : k < n) : (rowI (zs.take k ++ List.replicate (n - k) 0))[k]? = some (.int .i64 0) := by
  have h := fill_at zs 0 n k hl hk
  unfold rowI
  rw [List.getElem?_toArray, List.getElem?_map, h]
  rfl

theorem row_kept {w wr w1 : World} {q : Nat} {ia : Option Addr} {l ic : Nat} {xs : List Value} (h : wr.ownsRow (w.heap.size + 1 + 1 + 1 + 1) 9 1 (.slice ia l ic) l xs) (hg : (wr.drewN q).grownBy w1 (some (w.heap.size + 1))) :
    w1.ownsRow (w.heap.size + 1 + 1 + 1 + 1) 9 1 (.slice ia l ic) l xs := by
  have h' : (wr.drewN q).ownsRow (w.heap.size + 1 + 1 + 1 + 1) 9 1 (.slice ia l ic) l xs := h
  refine h'.kept hg ?_
  cases ia with
  | none => exact .inl rfl
  | some a =>
    right
    intro e
    have := h.lt a.block rfl
    have e' : a.block = w.heap.size + 1 := by simpa [Value.ownBlock] using e
    omega

theorem one_str (s : ByteArray) : ∀ u ∈ [Value.string s], u.oneCell' = true := by simp [Value.oneCell']
/-- What the walk reads behind the append. -/
theorem row_facts {w wr w1 w2 : World} {n k q : Nat} {ids : List (List UInt8)} {zs : List Int} {ia : Option Addr} {ic : Nat} {O : Obj} {z : Int} (hI : NInv w wr n k ids zs ia ic) (hg : (wr.drewN q).grownBy w1 (some (w.heap.size + 1)))
    (hg2 : (w1.alloc O).grownBy w2 (Value.slice ia ids.length ic).ownBlock) (hz : (rowI zs)[k]? = some (.int .i64 z)) :
    w2.cell? ⟨w.heap.size + 1 + 1 + 1, 0, none⟩ = some (.slice ia ids.length ic) ∧ w2.cell? ⟨w.heap.size + 1 + 1 + 1, 1, none⟩ = some (.slice (some ⟨w.heap.size + 1 + 1, 0, none⟩) n n) ∧
      (∀ j, w2.frozen? ⟨w.heap.size + 1 + 1 + 1, j, none⟩ = false) ∧ w2.cell? ⟨w.heap.size + 1 + 1, k, none⟩ = some (.int .i64 z) ∧ ∀ j, w2.frozen? ⟨w.heap.size + 1 + 1, j, none⟩ = false := by
  obtain ⟨xs0, ho0⟩ := hI.own
  have hrow : ∀ b, b < w.heap.size + 1 + 1 + 1 + 1 → some b ≠ (Value.slice ia ids.length ic).ownBlock := by
    intro b hb
    cases ia with
    | none => simp [Value.ownBlock]
    | some a =>
      have := ho0.lt a.block rfl
      simp [Value.ownBlock]
      omega
  have bk : ∀ {b : Nat} {cs : Array Value} {tt : TypeId}, Block wr b cs tt → b < w.heap.size + 1 + 1 + 1 + 1 → b ≠ w.heap.size + 1 → Block w2 b cs tt := fun hb hlt hne =>
    Block.grown (Block.alloc (Block.grown (hb.drewN q) hg (by simpa using hne)) O) hg2 (hrow _ hlt)
  have h3 := bk hI.b3 (by omega) (by omega)
  have h2 := bk hI.b2 (by omega) (by omega)
  exact ⟨h3.cell 0, h3.cell 1, h3.frozen, (h2.cell k).trans hz, h2.frozen⟩

set_option maxHeartbeats 2000000 in
theorem numbers_any (a : Option Addr) (n : Nat) (os : List OpV) (w : World) (hc : HistC w a n os) (hn : n ≤ 1048577) :
    Calls Try.prog 16 #[.iface 42 (.slice a n n)] w fun e w' => ∃ ia ic bo, e = .returned (.agg #[.slice ia (Imp.idsOf (txns os)).length ic, .slice (some ⟨bo, 0, none⟩) n n]) ∧ w.heap.size ≤ bo ∧ Block w' bo (rowI (Imp.ofs (txns os))) 3 ∧ Below w.heap.size w w' := by
  obtain ⟨hl, htx, hcall⟩ := hc
  have hmk := mkI n (by omega)
  have hmm := @run_makeMap Try.prog
  have hm1 := method_len a n n
  have hm2 := method_op a n n
  have cL := fun W => len_any a n n W
  have HC := hide hcall
  have HL := hide hl
  have HLO : Hid ((Imp.ofs (txns os)).length = n) := by unfold Hid; rw [Imp.ofs_len, txns_len]; exact hl
  have HX := hide htx
  clear hcall hl htx
  go_enter Try.func16, Try.ntmps16
  go_wp2_with (go_at_call 42; refine (cL _).mono ?_; rintro e w' ⟨rfl, hw⟩; have hw := hw.symm; subst hw)
  clear cL hmk hmm hm1
  go_loopw [19] (fun j wr => ∃ (k : Nat) (ia : Option Addr) (ic : Nat), j = .int .i64 k ∧ k ≤ n ∧ NInv w wr n k (Imp.idsOf ((txns os).take k)) ((Imp.ofs (txns os)).take k ++ List.replicate (n - k) 0) ia ic) (fun j _ => n - (intOf j).toNat)
  case atStart => exact ⟨0, none, 0, rfl, Nat.zero_le _, by simpa [Imp.idsOf] using NInv.start w n⟩
  case round =>
    obtain ⟨k, ia, ic, rfl, hk, hI⟩ := hrel
    by_cases hlt : k < n
    · have hkl : k < os.length := by have := unhide HL; omega
      obtain ⟨o, ho⟩ : ∃ o, os[k]? = some o := ⟨os[k]'hkl, List.getElem?_eq_getElem _⟩
      have cO := unhide HC wr k o hI.bel ho
      have hts := unhide HX o (List.mem_of_getElem? ho)
      have hkey := WideMaps.keyOf_string_mk Try.underlying9 hts
      have HO := hide ho
      clear ho HC HX
      obtain ⟨D, hown, hD⟩ := hI.mp
      by_cases hin : o.txn.data.toList ∈ Imp.idsOf ((txns os).take k)
      · have hhas : Maps.has D (.string o.txn.data.toList) = true := by rw [hD.2.1]; simpa using hin
        have hc3 : wr.cell? ⟨w.heap.size + 1 + 1 + 1, 1, none⟩ = some (.slice (some ⟨w.heap.size + 1 + 1, 0, none⟩) n n) := hI.b3.cell 1
        have hof : wr.cell? ⟨w.heap.size + 1 + 1, k, none⟩ = some (.int .i64 0) := (hI.b2.cell k).trans (rowI_fill _ n k (unhide HLO) hlt)
        have hofz := hI.b2.frozen k
        go_wp2_with (first
          | (go_at_call 43; refine cO.mono ?_; rintro e w' ⟨rfl, q, rfl⟩)
          | (at_lookup; refine wpList_lookup_own_ok_int _ rfl _ _ 57 rfl 9 3 .i64 law Try.underlying57 Try.underlying3 (zeroE _) (w.heap.size + 1) k D rfl hown _ _ rfl hkey ?_; intro c hat hwc))
        go_roundw
        case rel =>
          have ht := txns_at (unhide HO)
          obtain ⟨e1, e2⟩ := Imp.num_hit _ k _ ht hin
          have hcz : c = (Imp.num (Imp.idsOf (txns os)) o.txn.data.toList : Int) := by
            rw [hD.2.2 _ hin] at hat
            simp at hat
            rw [e2]
            exact hat.symm
          have h := ((hI.drewN q).more).setOf k c
          rw [fill_set (Imp.ofs (txns os)) 0 c n k (unhide HLO) hlt (by rw [Imp.ofs_at _ k _ ht, hcz])] at h
          exact ⟨k + 1, ia, ic, by go_num, by omega, by rw [e1]; exact h⟩
        case measure => simp [intOf]; omega
      · have hhas : Maps.has D (.string o.txn.data.toList) = false := by rw [hD.2.1]; simpa using hin
        obtain ⟨xs, hrow⟩ := hI.own
        obtain ⟨i0, hi, hz0, hz1, hz2⟩ := info_parts info9
        have hlen : (Imp.idsOf ((txns os).take k)).length ≤ k := by
          have := Imp.idsOf_len ((txns os).take k)
          rw [List.length_take] at this
          omega
        have hc30 : wr.cell? ⟨w.heap.size + 1 + 1 + 1, 0, none⟩ = some (.slice ia (Imp.idsOf ((txns os).take k)).length ic) := hI.b3.cell 0
        generalize hIDS : Imp.idsOf ((txns os).take k) = ids at *
        have HIDS := hide hIDS
        clear hIDS
        have wf := WalkArith.wf_i64 (n := (ids.length : Int)) (by omega)
        go_wp2_with (first
          | (go_at_call 43; refine cO.mono ?_; rintro e w' ⟨rfl, q, rfl⟩)
          | (at_lookup; refine wpList_lookup_own_ok_int _ rfl _ _ 57 rfl 9 3 .i64 law Try.underlying57 Try.underlying3 (zeroE _) (w.heap.size + 1) k D rfl hown _ _ rfl hkey ?_; intro c hat hwc)
          | (at_mapUpdate; refine wpList_mapUpdate_own _ rfl _ _ _ 57 rfl 9 3 law Try.underlying57 _ (w.heap.size + 1) k D rfl hown (by unfold maxLen; omega) _ _ _ rfl rfl hkey _ [] (plainElem_int Try.underlying3 wf) ?_; intro w1 hown1 hg1; have hb31 := Block.grown (hI.drewN q).b3 hg1 (by intro h; injection h; omega); have hc31 : w1.cell? ⟨w.heap.size + 1 + 1 + 1, 0, none⟩ = some (.slice ia ids.length ic) := hb31.cell 0; have hrow1 := row_kept hrow hg1)
          | (at_builtin; refine wpList_append_own _ rfl _ _ 23 rfl (w.heap.size + 1 + 1 + 1 + 1) 9 i0 (.string ⟨#[]⟩) 1 16 Try.underlying23 hi hz0 hz1 hz2 rfl (by decide) (.slice ia ids.length ic) _ _ rfl (hrow1.alloc _) ⟨w1.heap.size, 0, none⟩ 1 1 [.string o.txn] rfl rfl (cell_one_new _ _ _) (one_str _) (by unfold maxLen; omega) (by omega) (by have := hb31.lt; simp; omega) ?_; intro v' w2 hown2 hg2 _; obtain ⟨ia', ic', rfl⟩ := own_shape hown2; obtain ⟨f1, f2, f3, f4, f5⟩ := row_facts hI hg1 hg2 (rowI_fill _ n k (unhide HLO) hlt)))
        go_roundw
        case rel =>
          have ht := txns_at (unhide HO)
          have hin' : o.txn.data.toList ∉ Imp.idsOf ((txns os).take k) := by rw [unhide HIDS]; exact hin
          obtain ⟨e1, e2⟩ := Imp.num_miss _ k _ ht hin'
          have h := ((hI.drewN q).add _ hin hD hown1 hg1 hown2 hg2).setOf k (ids.length : Int)
          rw [fill_set (Imp.ofs (txns os)) 0 (ids.length : Int) n k (unhide HLO) hlt (by rw [Imp.ofs_at _ k _ ht, e2, unhide HIDS])] at h
          rw [unhide HIDS] at e1
          exact ⟨k + 1, ia', ic', by go_num, by omega, by rw [e1]; exact h⟩
        case measure => simp [intOf]; omega
    · clear HC HX
      have hk' : k = n := by omega
      have h3 := hI.b3
      have c0 : wr.cell? ⟨w.heap.size + 1 + 1 + 1, 0, none⟩ = _ := h3.cell 0
      have c1 : wr.cell? ⟨w.heap.size + 1 + 1 + 1, 1, none⟩ = _ := h3.cell 1
      have d0 : wr.cell? ⟨w.heap.size, 0, none⟩ = _ := hI.b0.cell 0
      have d1 : wr.cell? ⟨w.heap.size, 1, none⟩ = _ := hI.b0.cell 1
      have df := hI.b0.frozen
      clear h3
      have HK := hide hk'
      clear hk'
      go_wp2
      have hF := (hI.b0.set 0 (.slice ia (Imp.idsOf ((txns os).take k)).length ic)).set 1 (.slice (some ⟨w.heap.size + 1 + 1, 0, none⟩) n n)
      have e0 := hF.cell 0
      have e1 := hF.cell 1
      simp at e0 e1
      have hb2 := (hI.b2.other (a := ⟨w.heap.size, 0, none⟩) (.slice ia (Imp.idsOf ((txns os).take k)).length ic) (by simp; omega)).other (a := ⟨w.heap.size, 1, none⟩) (.slice (some ⟨w.heap.size + 1 + 1, 0, none⟩) n n) (by simp; omega)
      rw [fill_all _ 0 n k (unhide HLO) (by omega)] at hb2
      have htk : (txns os).take k = txns os := List.take_of_length_le (by rw [txns_len]; have := unhide HL; omega)
      refine bodyPost_ret (v := .agg #[.slice ia (Imp.idsOf ((txns os).take k)).length ic, .slice (some ⟨w.heap.size + 1 + 1, 0, none⟩) n n]) (by simp [results, Try.results16, go_sem, e0, e1]) rfl ⟨ia, ic, w.heap.size + 1 + 1, ?_, by omega, hb2, (hI.bel.setCell (Nat.le_refl _) _).setCell (Nat.le_refl _) _⟩
      rw [htk]

end Go.Proofs.Qxb6618844a
