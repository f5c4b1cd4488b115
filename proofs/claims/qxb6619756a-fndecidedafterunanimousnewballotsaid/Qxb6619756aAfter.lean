/-
  FnDecidedAfterUnanimousNewBallot (4): the walk.
-/
import Derived.Test.Qxb6619756aWalksF
import Derived.Test.Qxb6619756aBits
import Derived.Deep.CutRange
import Derived.Deep.DeepCutAuto
set_option linter.unusedSimpArgs false
set_option linter.unusedVariables false
namespace Go.Proofs.Qxb6619756a
open Go.RowKit

set_option maxRecDepth 100000 in
set_option maxHeartbeats 1000000 in
theorem walk4 (a0 a1 : Option Addr) (n c0 m c1 : Nat) (es bs : List Int) (v : Int) (w : World) (h0 : ArgK w .u64 a0 n c0 es) (h1 : ArgK w .u8 a1 m c1 bs) :
    Calls Try.prog 4 #[.slice a0 n c0, .slice a1 m c1, .int .u8 v] w fun e w' => e = .returned (.bool true) ∧ Below w.heap.size w w' := by
  have cB := bytes10 a0 a1 n c0 m c1 v w h0.2.1 h1.2.1
  by_cases hl : n + m ≤ 1048576
  · have e1 : lim n m = true := by simp [lim, hl]
    rw [e1] at cB
    by_cases hn : n ≤ 4096
    · by_cases hm : m ≤ 4096
      · have hn' : ¬ (4096 : Int) < (n : Int) := by omega
        have hm' : ¬ (4096 : Int) < (m : Int) := by omega
        clear e1 hl
        have hmU := mkU n (by omega)
        have hmV := mkV m (by omega)
        have H0 := hide h0
        have H1 := hide h1
        have HLE := hide h0.1
        have HLB := hide h1.1
        clear h0 h1
        go_enter Try.func4, Try.ntmps4
        go_upto_if 33 with (go_at_call 10; refine cB.mono ?_; rintro e w' ⟨rfl, hw⟩; have hw := hw.symm; subst hw)
        clear cB
        go_cut [0] (fun s0 wc => ∃ ea, s0 = .slice ea n n ∧ Own wc .u64 28 ea es ∧ Below w.heap.size w wc)
        case first =>
          cases a0 with
          | none =>
            obtain ⟨g1, _, g3, _⟩ := unhide H0
            obtain ⟨rfl, rfl⟩ := g3 rfl
            obtain rfl : es = [] := List.length_eq_zero_iff.1 g1
            clear H0 H1 g1 g3
            go_wp2
            go_meet
            case rel => exact ⟨none, rfl, .inl ⟨rfl, rfl⟩, Below.refl _ _⟩
          | some x =>
            obtain ⟨g1, _, _, g4⟩ := unhide H0
            have hcp := copy_all .u64 22 28 3 Try.underlying22 size28 x n c0 es w g1 (g4 x rfl)
            clear H0 H1 g1 g4 hmV
            go_wp2
            go_meet
            case rel => exact ⟨some ⟨w.heap.size, 0, none⟩, rfl, .inr ⟨_, rfl, Block.new w _ 28⟩, (Below.refl _ _).alloc (Nat.le_refl _) _⟩
        case rest =>
          obtain ⟨ea, rfl, hE, hb1⟩ := hcut
          have HE := hide hE
          have HB1 := hide hb1
          clear H0 hE hb1
          go_upto_if 42 with (fail)
          go_cut [1] (fun s1 wd => ∃ ba, s1 = .slice ba m m ∧ Own wd .u8 5 ba bs ∧ Own wd .u64 28 ea es ∧ Below w.heap.size w wd)
          case first =>
            cases a1 with
            | none =>
              obtain ⟨g1, _, g3, _⟩ := unhide H1
              obtain ⟨rfl, rfl⟩ := g3 rfl
              obtain rfl : bs = [] := List.length_eq_zero_iff.1 g1
              clear H1 g1 g3
              go_wp2
              go_meet
              case rel => exact ⟨none, rfl, .inl ⟨rfl, rfl⟩, unhide HE, unhide HB1⟩
            | some x =>
              obtain ⟨g1, _, _, g4⟩ := (unhide H1).below (unhide HB1)
              have hcp := copy_all .u8 23 5 3 Try.underlying23 size5 x m c1 bs wc g1 (g4 x rfl)
              clear H1 g1 g4 hmU
              go_wp2
              go_meet
              case rel => exact ⟨some ⟨wc.heap.size, 0, none⟩, rfl, .inr ⟨_, rfl, Block.new wc _ 5⟩, (unhide HE).below ((Below.refl _ _).alloc (Nat.le_refl _) _), (unhide HB1).alloc (unhide HB1).size _⟩
          case rest =>
            obtain ⟨ba, rfl, hB, hE, hb⟩ := hcut
            have c8 := zzDecided_any ea ba es bs wc (by have := unhide HLE; omega) (by have := unhide HLB; omega) hE hB
            have el : es.length = n := unhide HLE
            have bl : bs.length = m := unhide HLB
            rw [el, bl] at c8
            clear el bl
            generalize hd : Dec.dec (maj es) 0 0 bs = d at c8
            obtain ⟨f0, s0⟩ := d
            have HD := hide hd
            have HOB := hide hB
            have HOE := hide hE
            have HBB := hide hb
            clear hd hB hE hb HE HB1 hmV
            go_wp2_with (go_at_call 8; refine c8.mono ?_; rintro e w3 ⟨rfl, hb3⟩)
            clear c8
            go_loopw [13] (fun p wr => ∃ (k : Nat), p = .int .i64 k ∧ k ≤ n ∧ Below w3.heap.size w3 wr ∧ Block wr w3.heap.size (rowK .u64 ((es.map (mark m)).take k ++ List.replicate (n - k) 0)) 28) (fun p _ => n - (intOf p).toNat)
            case atStart => exact ⟨0, rfl, Nat.zero_le _, (Below.refl _ _).alloc (Nat.le_refl _) _, by simpa using Block.new w3 (rowK .u64 (List.replicate n 0)) 28⟩
            case round =>
              obtain ⟨k, rfl, hk, hbr, hBk⟩ := hrel
              by_cases hlt : k < n
              · rcases unhide HOE with ⟨rfl, rfl⟩ | ⟨eb, rfl, hEb⟩
                · have := unhide HLE; simp at this; omega
                obtain ⟨e, he⟩ : ∃ e, es[k]? = some e := ⟨es[k]'(by have := unhide HLE; omega), List.getElem?_eq_getElem _⟩
                have hEw := (hEb.below hb3 hEb.lt)
                have ce := ((hEw.below hbr hEw.lt).cell k).trans (rowK_some _ es k e he)
                have cz := (hBk.cell k).trans (rowK_some _ _ k 0 (fill_at (es.map (mark m)) 0 n k (by rw [List.length_map]; exact unhide HLE) hlt))
                have cf := hBk.frozen
                have hset := hBk.setK k (mark m e)
                rw [fill_set (es.map (mark m)) 0 (mark m e) n k (by rw [List.length_map]; exact unhide HLE) hlt (by rw [List.getElem?_map, he]; rfl)] at hset
                have HS := hide hset
                clear hEb hEw he hBk HOE HOB HBB HD hset
                by_cases h64 : m < 64
                · have h64' : (m : Int) < 64 := by omega
                  simp only [mark, if_pos h64] at HS
                  go_wp2
                  go_roundw
                  case rel => exact ⟨k + 1, by go_num, by omega, hbr.setCell (Nat.le_refl _) _, unhide HS⟩
                  case measure => simp [intOf]; omega
                · have h64' : ¬ (m : Int) < 64 := by omega
                  simp only [mark, if_neg h64] at HS
                  go_wp2
                  go_roundw
                  case rel => exact ⟨k + 1, by go_num, by omega, hbr.setCell (Nat.le_refl _) _, unhide HS⟩
                  case measure => simp [intOf]; omega
              · rw [fill_all (es.map (mark m)) 0 n k (by rw [List.length_map]; exact unhide HLE) (by omega)] at hBk
                have HE2 := hide hBk
                have hbx := hb3.trans (hbr.mono hb3.size)
                have hEl := hBk.lt
                have hmk : ∀ W : World, (Instr.makeSlice 23 (.int .i64 ((m : Int) + 1)) (.int .i64 ((m : Int) + 1))).run Try.prog W = .ok (.slice (some ⟨W.heap.size, 0, none⟩) (m + 1) (m + 1)) (W.alloc (.cells (rowK .u8 (List.replicate (m + 1) 0)) 5)) := fun W => by
                  have := mkV (m + 1) (by omega) W
                  rwa [show ((m + 1 : Nat) : Int) = (m : Int) + 1 by omega] at this
                have HL2 : Hid ((bs ++ [v]).length = m + 1) := by unfold Hid; rw [List.length_append, unhide HLB]; rfl
                clear hBk
                obtain ⟨w4, hw4⟩ : ∃ x, x = wr := ⟨_, rfl⟩
                subst hw4
                go_wp2
                clear hmk
                go_loopw [16] (fun p wq => ∃ (j : Nat), p = .int .i64 j ∧ j ≤ m ∧ Below w4.heap.size w4 wq ∧ Block wq w4.heap.size (rowK .u8 ((bs ++ [v]).take j ++ List.replicate (m + 1 - j) 0)) 5) (fun p _ => m - (intOf p).toNat)
                case atStart => exact ⟨0, rfl, Nat.zero_le _, (Below.refl _ _).alloc (Nat.le_refl _) _, by simpa using Block.new w4 (rowK .u8 (List.replicate (m + 1) 0)) 5⟩
                case round =>
                  obtain ⟨j, rfl, hj, hbq, hBj⟩ := hrel
                  have cz := (hBj.cell j).trans (rowK_some _ _ j 0 (fill_at (bs ++ [v]) 0 (m + 1) j (unhide HL2) (by omega)))
                  have cf := hBj.frozen
                  by_cases hlt : j < m
                  · rcases unhide HOB with ⟨rfl, rfl⟩ | ⟨bb, rfl, hBb⟩
                    · have := unhide HLB; simp at this; omega
                    obtain ⟨u, hu⟩ : ∃ u, bs[j]? = some u := ⟨bs[j]'(by have := unhide HLB; omega), List.getElem?_eq_getElem _⟩
                    have hBw := (hBb.below hbx hBb.lt)
                    have ce := ((hBw.below hbq hBw.lt).cell j).trans (rowK_some _ bs j u hu)
                    have hset := hBj.setK j u
                    rw [fill_set (bs ++ [v]) 0 u (m + 1) j (unhide HL2) (by omega) (by rw [List.getElem?_append_left (by have := unhide HLB; omega)]; exact hu)] at hset
                    have HS := hide hset
                    clear hBb hBw hu hBj HOE HOB HBB HD hset HE2
                    go_wp2
                    go_roundw
                    case rel => exact ⟨j + 1, by go_num, by omega, hbq.setCell (Nat.le_refl _) _, unhide HS⟩
                    case measure => simp [intOf]; omega
                  · obtain rfl : j = m := by omega
                    have hset := hBj.setK j v
                    rw [fill_set (bs ++ [v]) 0 v (j + 1) j (unhide HL2) (by omega) (by rw [List.getElem?_append_right (by have := unhide HLB; omega), unhide HLB]; simp), fill_all (bs ++ [v]) 0 (j + 1) (j + 1) (unhide HL2) (Nat.le_refl _)] at hset
                    have hbq' := hbq.setCell (p := ⟨w4.heap.size, j, none⟩) (Nat.le_refl _) (.int .u8 v)
                    have hE2 := (unhide HE2).below hbq' hEl
                    have c8 := zzDecided_any _ _ (es.map (mark j)) (bs ++ [v]) _ (by rw [List.length_map]; have := unhide HLE; omega) (by have := unhide HL2; omega) (.inr ⟨_, rfl, hE2⟩) (.inr ⟨_, rfl, hset⟩)
                    obtain ⟨f1, s1, hfs, hcs⟩ := after_cases es bs v n j (unhide HLE) (unhide HLB) f0 s0 (unhide HD)
                    rw [hfs, List.length_map, unhide HL2, unhide HLE] at c8
                    have hfin : ∀ W, Below (wr.setCell ⟨w4.heap.size, j, none⟩ (.int .u8 v)).heap.size (wr.setCell ⟨w4.heap.size, j, none⟩ (.int .u8 v)) W → Below w.heap.size w W := fun W hW => by
                      have h1 := hbx.trans (hbq'.mono hbx.size)
                      have h2 := h1.trans (hW.mono h1.size)
                      exact (unhide HBB).trans (h2.mono (unhide HBB).size)
                    have HF := hide hfin
                    clear hfin hE2 hset hBj hbq' hbq hbx hbr hb3 hEl HE2 HOE HOB HBB HD hfs H1 HL2
                    rcases hcs with ⟨h1, rfl, rfl⟩ | ⟨h1, rfl, rfl, rfl⟩ | ⟨h1, h2, rfl, rfl, rfl⟩ | ⟨h1, h2, h3, h4, rfl, rfl⟩ | ⟨h1, h2, h3, rfl, rfl, rfl, rfl⟩ | ⟨h1, h2, h3, rfl, h5, rfl, rfl, rfl⟩ | ⟨h1, h2, h3, rfl, h5, h6, rfl, rfl⟩
                    all_goals
                      go_wp2_with (go_at_call 8; refine c8.mono ?_; rintro e w5 ⟨rfl, hb5⟩)
                    all_goals
                      go_ret
                      exact ⟨rfl, unhide HF _ hb5⟩
      · have hn' : ¬ (4096 : Int) < (n : Int) := by omega
        have hm' : (4096 : Int) < (m : Int) := by omega
        clear e1 hl h0 h1
        go_enter Try.func4, Try.ntmps4
        go_wp2_with (go_at_call 10; refine cB.mono ?_; rintro e w' ⟨rfl, hw⟩; have hw := hw.symm; subst hw)
        go_ret
        exact ⟨rfl, Below.refl _ _⟩
    · have hn' : (4096 : Int) < (n : Int) := by omega
      clear e1 hl h0 h1
      go_enter Try.func4, Try.ntmps4
      go_wp2_with (go_at_call 10; refine cB.mono ?_; rintro e w' ⟨rfl, hw⟩; have hw := hw.symm; subst hw)
      go_ret
      exact ⟨rfl, Below.refl _ _⟩
  · have e1 : lim n m = false := by simp [lim, hl]
    rw [e1] at cB
    clear e1 hl h0 h1
    go_enter Try.func4, Try.ntmps4
    go_wp2_with (go_at_call 10; refine cB.mono ?_; rintro e w' ⟨rfl, hw⟩; have hw := hw.symm; subst hw)
    go_ret
    exact ⟨rfl, Below.refl _ _⟩

end Go.Proofs.Qxb6619756a
