/-
  THE WALK of leastMajorityValues (9).
-/
import Derived.Test.Qxb6619756aWalksH
import Derived.Deep.CutRange
import Derived.Deep.QuietTactic
import Derived.Deep.DeepCutAuto
set_option linter.unusedSimpArgs false
set_option linter.unusedVariables false
namespace Go.Proofs.Qxb6619756a
open Go.RowKit

set_option maxHeartbeats 1000000 in
theorem least_any (ea ba : Option Addr) (n m : Nat) (es bs : List Int) (w : World) (hn : n ≤ 4097) (hm : m ≤ 4097) (hln : es.length = n) (hlm : bs.length = m) (hE : Own w .u64 28 ea es) (hB : Own w .u8 5 ba bs) (hr : ∀ e ∈ es, 0 ≤ e ∧ e < 18446744073709551616) :
    Calls Try.prog 9 #[.slice ea n n, .slice ba m m] w fun e w' => e = .returned (.tuple #[.int .u8 (Dec.dec (maj es) 0 0 bs).1, .int .u8 (Dec.dec (maj es) 0 0 bs).2]) ∧ Below w.heap.size w w' := by
  have HN := hide hln
  have HM := hide hlm
  have HC : Hid (∀ (W : World), Below w.heap.size w W → _) := fun W hb => holders_any ea n es W hn hln (hE.below hb) hr
  clear hln hlm
  generalize hD : Dec.dec (maj es) 0 0 bs = D
  have HD := hide hD
  have HOB := hide hB
  clear hD hB hr hE
  have hsz : (Try.prog.info? 53).map (·.size) = some (rowK .i64 (counts es)).size := by rw [rowK_size, counts_len]; exact size53
  have h1 := all_one .i64 (counts es)
  have HS := hide hsz
  have H1 := hide h1
  have HZ : Hid ((rowK .i64 (counts es)).size = 64) := by unfold Hid; rw [rowK_size, counts_len]
  clear hsz h1
  go_enter Try.func9, Try.ntmps9
  go_upto_if 20 with (first | (go_at_call 21; refine (unhide HC _ (Below.refl _ _)).mono ?_; rintro e w1 ⟨rfl, hb1⟩) | (refine wpList_store_row rfl 53 _ _ rfl _ _ rfl rfl 53 _ (heap_alloc_last _ _) (unhide HS) (by rw [unhide HZ]; rfl) (unhide H1) ?_; rw [World.setRow_alloc_new]))
  have HE1 := hide hb1
  clear HC HS H1 HZ hb1
  go_cut [8] (fun s wc => ∃ L : Nat, s = .int .i64 L ∧ L ≤ 64 ∧ L ≤ m ∧ (L = 64 ∨ L = m) ∧ Below w.heap.size w wc ∧ Block wc w1.heap.size (rowK .i64 (counts es)) 53)
  case first =>
    have hbw := (unhide HE1).alloc (unhide HE1).size (.cells (rowK .i64 (counts es)) 53)
    have hBw := Block.new w1 (rowK .i64 (counts es)) 53
    have HX := hide (And.intro hbw hBw)
    clear hbw hBw
    by_cases h64 : (64 : Int) < (m : Int)
    · go_wp2
      go_meet
      case rel => exact ⟨64, rfl, Nat.le_refl _, by omega, .inl rfl, unhide HX⟩
    · go_wp2
      go_meet
      case rel => exact ⟨m, rfl, by omega, Nat.le_refl _, .inr rfl, unhide HX⟩
  case rest =>
    obtain ⟨L, rfl, hL1, hL2, hL3, hbc, hBc⟩ := hcut
    have HL := hide hL3
    have hOB := (unhide HOB).below hbc
    have HBC := hide hbc
    clear hL3 HOB hbc HE1
    have hBl := hBc.lt
    go_wp2
    go_loopw [9, 10] (fun b0 b wr => ∃ (k : Nat), b = .int .i64 k ∧ k ≤ L ∧ b0 = .int .i64 (-1) ∧ Below wc.heap.size wc wr ∧ Hid (Dec.dec (maj es) k 0 (bs.drop k) = D)) (fun _ b _ => L - (intOf b).toNat)
    case atStart => exact ⟨0, rfl, Nat.zero_le _, rfl, Below.refl _ _, by simpa [Hid] using unhide HD⟩
    case round =>
      obtain ⟨k, rfl, hk, rfl, hbr, hd⟩ := hrel
      by_cases hlt : k < L
      · rcases hOB with ⟨rfl, rfl⟩ | ⟨bb, rfl, hBb⟩
        · have := unhide HM; simp at this; omega
        have hkb : k < bs.length := by have := unhide HM; omega
        obtain ⟨v, hv⟩ : ∃ v, bs[k]? = some v := ⟨bs[k]'hkb, List.getElem?_eq_getElem _⟩
        have cv := ((hBb.below hbr hBb.lt).cell k).trans (rowK_some _ bs k v hv)
        have cc := ((hBc.below hbr hBl).cell k).trans (rowK_some _ _ k _ (counts_at es k (by omega)))
        have hdr : bs.drop k = v :: bs.drop (k + 1) := by
          rw [List.drop_eq_getElem_cons hkb]
          congr 1
          exact (List.getElem?_eq_some_iff.1 hv).2
        have hd1 := unhide hd
        rw [hdr] at hd1
        have hmj : maj es k = decide (n < 2 * holders es k) := by unfold maj; rw [unhide HN]
        have hhl : holders es k ≤ n := by have := holders_len es k; have := unhide HN; omega
        have HV := hide hv
        clear hdr hv hd
        by_cases hv0 : v = 0
        · rw [Dec.dec_skip _ _ _ _ _ (.inl hv0)] at hd1
          have HD1 := hide hd1
          have h1 : (v == 0) = true := by simp [hv0]
          clear hd1 hmj
          go_wp2
          go_roundw
          case rel => exact ⟨k + 1, by go_num, by omega, rfl, hbr, HD1⟩
          case measure => simp [intOf]; omega
        · have h1 : (v == 0) = false := by simp [hv0]
          cases hmm : maj es k
          · rw [Dec.dec_no _ _ _ _ _ (by simp [hv0]) hmm] at hd1
            have HD1 := hide hd1
            have h2 : ¬ (n : Int) < 2 * (holders es k : Int) := by rw [hmj] at hmm; simp at hmm; omega
            clear hd1 hmj hmm
            generalize holders es k = hh at *
            go_wp2
            go_roundw
            case rel => exact ⟨k + 1, by go_num, by omega, rfl, hbr, HD1⟩
            case measure => simp [intOf]; omega
          · rw [Dec.dec_first _ _ _ _ (by simp [hv0]) hmm] at hd1
            have HD1 := hide hd1
            have h2 : (n : Int) < 2 * (holders es k : Int) := by rw [hmj] at hmm; simp at hmm; omega
            clear hd1 hmj hmm HD
            generalize holders es k = hh at *
            obtain ⟨w2, hw2⟩ : ∃ x, x = wr := ⟨_, rfl⟩
            subst hw2
            go_wp2
            clear cv cc hhl h2
            go_loopw [12] (fun b wq => ∃ (j : Nat), b = .int .i64 j ∧ j ≤ L ∧ Below wc.heap.size wc wq ∧ Hid (Dec.dec (maj es) j v (bs.drop j) = D)) (fun b _ => L - (intOf b).toNat)
            case atStart => exact ⟨k + 1, by go_num, by omega, hbr, HD1⟩
            case round =>
              obtain ⟨j, rfl, hj, hbq, hd⟩ := hrel
              by_cases hjl : j < L
              · have hjb : j < bs.length := by have := unhide HM; omega
                have hjm : (j : Int) < (m : Int) := by omega
                obtain ⟨u, hu⟩ : ∃ u, bs[j]? = some u := ⟨bs[j]'hjb, List.getElem?_eq_getElem _⟩
                have cu := ((hBb.below hbq hBb.lt).cell j).trans (rowK_some _ bs j u hu)
                have cc := ((hBc.below hbq hBl).cell j).trans (rowK_some _ _ j _ (counts_at es j (by omega)))
                have hdr : bs.drop j = u :: bs.drop (j + 1) := by
                  rw [List.drop_eq_getElem_cons hjb]
                  congr 1
                  exact (List.getElem?_eq_some_iff.1 hu).2
                have hd1 := unhide hd
                rw [hdr] at hd1
                have hmj : maj es j = decide (n < 2 * holders es j) := by unfold maj; rw [unhide HN]
                have hhl : holders es j ≤ n := by have := holders_len es j; have := unhide HN; omega
                clear hdr hu hd HD1
                by_cases hu0 : u = 0
                · rw [Dec.dec_skip _ _ _ _ _ (.inl hu0)] at hd1
                  have HD1 := hide hd1
                  have h3 : (u == 0) = true := by simp [hu0]
                  clear hd1 hmj
                  go_wp2
                  go_roundw
                  case rel => exact ⟨j + 1, by go_num, by omega, hbq, HD1⟩
                  case measure => simp [intOf]; omega
                · have h3 : (u == 0) = false := by simp [hu0]
                  by_cases huv : u = v
                  · rw [Dec.dec_skip _ _ _ _ _ (.inr huv)] at hd1
                    have HD1 := hide hd1
                    subst huv
                    clear hd1 hmj
                    go_wp2
                    go_roundw
                    case rel => exact ⟨j + 1, by go_num, by omega, hbq, HD1⟩
                    case measure => simp [intOf]; omega
                  · have h4 : (u == v) = false := by simp [huv]
                    have h5 : (u != 0) = true := by simp [hu0]
                    have h6 : (u != v) = true := by simp [huv]
                    cases hmm : maj es j
                    · rw [Dec.dec_no _ _ _ _ _ (by simp [hu0, huv]) hmm] at hd1
                      have HD1 := hide hd1
                      have h2 : ¬ (n : Int) < 2 * (holders es j : Int) := by rw [hmj] at hmm; simp at hmm; omega
                      clear hd1 hmj hmm
                      generalize holders es j = hh at *
                      go_wp2
                      go_roundw
                      case rel => exact ⟨j + 1, by go_num, by omega, hbq, HD1⟩
                      case measure => simp [intOf]; omega
                    · rw [Dec.dec_second _ _ _ _ _ (by simp [hu0, huv]) hmm hv0] at hd1
                      have h2 : (n : Int) < 2 * (holders es j : Int) := by rw [hmj] at hmm; simp at hmm; omega
                      subst hd1
                      clear hmj hmm
                      generalize holders es j = hh at *
                      go_wp2
                      go_quiet (fail)
                      go_wp2
                      go_ret2
                      exact ⟨rfl, below_drewN ((unhide HBC).trans (hbq.mono (unhide HBC).size)) _⟩
              · have hdh : Dec.dec (maj es) j v (bs.drop j) = (v, 0) := by
                  rcases unhide HL with h | h
                  · exact dec_high _ _ _ _ (fun i hi => maj_high es i (by omega))
                  · rw [List.drop_of_length_le (by have := unhide HM; omega)]; rfl
                have hd2 := (unhide hd).symm.trans hdh
                subst hd2
                go_wp2
                go_ret2
                exact ⟨rfl, (unhide HBC).trans (hbq.mono (unhide HBC).size)⟩
      · have hdh : Dec.dec (maj es) k 0 (bs.drop k) = (0, 0) := by
          rcases unhide HL with h | h
          · exact dec_high _ _ _ _ (fun i hi => maj_high es i (by omega))
          · rw [List.drop_of_length_le (by have := unhide HM; omega)]; rfl
        have hd2 := (unhide hd).symm.trans hdh
        subst hd2
        go_wp2
        go_ret2
        exact ⟨rfl, (unhide HBC).trans (hbr.mono (unhide HBC).size)⟩
end Go.Proofs.Qxb6619756a
