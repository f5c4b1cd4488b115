/-
  FnDecidedIsLeastMajorityBallot (3): the walk.
-/
import Derived.Test.Qxb6619756aLeast
set_option linter.unusedSimpArgs false
set_option linter.unusedVariables false
namespace Go.Proofs.Qxb6619756a
open Go.RowKit

set_option maxRecDepth 100000 in
set_option maxHeartbeats 1000000 in
theorem walk3 (a0 a1 : Option Addr) (n c0 m c1 : Nat) (es bs : List Int) (w : World) (h0 : ArgK w .u64 a0 n c0 es) (h1 : ArgK w .u8 a1 m c1 bs) (hr : ∀ e ∈ es, 0 ≤ e ∧ e < 18446744073709551616) :
    Calls Try.prog 3 #[.slice a0 n c0, .slice a1 m c1] w fun e w' => e = .returned (.bool true) ∧ Below w.heap.size w w' := by
  have cB := bytes7 a0 a1 n c0 m c1 w h0.2.1 h1.2.1
  by_cases hl : n + m ≤ 1048576
  · have e1 : lim n m = true := by simp [lim, hl]
    rw [e1] at cB
    by_cases hn : n ≤ 4096
    · by_cases hm : m ≤ 4096
      · have hn' : ¬ (4096 : Int) < (n : Int) := by omega
        have hm' : ¬ (4096 : Int) < (m : Int) := by omega
        clear e1 hl
        have hmU := mkU n (by omega)
        have hmV := mkV m (by omega)
        have H0 := hide h0
        have HR := hide hr
        have H1 := hide h1
        have HLE := hide h0.1
        have HLB := hide h1.1
        clear h0 h1 hr
        go_enter Try.func3, Try.ntmps3
        go_upto_if 22 with (go_at_call 7; refine cB.mono ?_; rintro e w' ⟨rfl, hw⟩; have hw := hw.symm; subst hw)
        clear cB
        go_cut [0] (fun s0 wc => ∃ ea, s0 = .slice ea n n ∧ Own wc .u64 28 ea es ∧ Below w.heap.size w wc)
        case first =>
          cases a0 with
          | none =>
            obtain ⟨g1, _, g3, _⟩ := unhide H0
            obtain ⟨rfl, rfl⟩ := g3 rfl
            obtain rfl : es = [] := List.length_eq_zero_iff.1 g1
            clear H0 H1 g1 g3
            go_wp2
            go_meet
            case rel => exact ⟨none, rfl, .inl ⟨rfl, rfl⟩, Below.refl _ _⟩
          | some x =>
            obtain ⟨g1, _, _, g4⟩ := unhide H0
            have hcp := copy_all .u64 22 28 3 Try.underlying22 size28 x n c0 es w g1 (g4 x rfl)
            clear H0 H1 g1 g4 hmV
            go_wp2
            go_meet
            case rel => exact ⟨some ⟨w.heap.size, 0, none⟩, rfl, .inr ⟨_, rfl, Block.new w _ 28⟩, (Below.refl _ _).alloc (Nat.le_refl _) _⟩
        case rest =>
          obtain ⟨ea, rfl, hE, hb1⟩ := hcut
          have HE := hide hE
          have HB1 := hide hb1
          clear H0 hE hb1
          go_upto_if 31 with (fail)
          go_cut [1] (fun s1 wd => ∃ ba, s1 = .slice ba m m ∧ Own wd .u8 5 ba bs ∧ Own wd .u64 28 ea es ∧ Below w.heap.size w wd)
          case first =>
            cases a1 with
            | none =>
              obtain ⟨g1, _, g3, _⟩ := unhide H1
              obtain ⟨rfl, rfl⟩ := g3 rfl
              obtain rfl : bs = [] := List.length_eq_zero_iff.1 g1
              clear H1 g1 g3
              go_wp2
              go_meet
              case rel => exact ⟨none, rfl, .inl ⟨rfl, rfl⟩, unhide HE, unhide HB1⟩
            | some x =>
              obtain ⟨g1, _, _, g4⟩ := (unhide H1).below (unhide HB1)
              have hcp := copy_all .u8 23 5 3 Try.underlying23 size5 x m c1 bs wc g1 (g4 x rfl)
              clear H1 g1 g4 hmU
              go_wp2
              go_meet
              case rel => exact ⟨some ⟨wc.heap.size, 0, none⟩, rfl, .inr ⟨_, rfl, Block.new wc _ 5⟩, (unhide HE).below ((Below.refl _ _).alloc (Nat.le_refl _) _), (unhide HB1).alloc (unhide HB1).size _⟩
          case rest =>
            obtain ⟨ba, rfl, hB, hE, hb⟩ := hcut
            have c8 := zzDecided_any ea ba es bs wc (by have := unhide HLE; omega) (by have := unhide HLB; omega) hE hB
            have el : es.length = n := unhide HLE
            have bl : bs.length = m := unhide HLB
            rw [el, bl] at c8
            have HC : Hid (∀ (W : World), Below wc.heap.size wc W → _) := fun W hbW => least_any ea ba n m es bs W (by omega) (by omega) el bl (hE.below hbW) (hB.below hbW) (unhide HR)
            clear el bl
            generalize Dec.dec (maj es) 0 0 bs = d at *
            obtain ⟨f0, s0⟩ := d
            have HBB := hide hb
            clear hB hE hb HE HB1 hmV hmU H1 HR
            go_wp2_with (first | (go_at_call 8; refine c8.mono ?_; rintro e w3 ⟨rfl, hb3⟩) | (go_at_call 9; refine (unhide HC _ hb3).mono ?_; rintro e w4 ⟨rfl, hb4⟩))
            go_ret
            have hb5 := hb3.trans (hb4.mono hb3.size)
            exact ⟨rfl, (unhide HBB).trans (hb5.mono (unhide HBB).size)⟩
      · have hn' : ¬ (4096 : Int) < (n : Int) := by omega
        have hm' : (4096 : Int) < (m : Int) := by omega
        clear e1 hl h0 h1
        go_enter Try.func3, Try.ntmps3
        go_wp2_with (go_at_call 7; refine cB.mono ?_; rintro e w' ⟨rfl, hw⟩; have hw := hw.symm; subst hw)
        go_ret
        exact ⟨rfl, Below.refl _ _⟩
    · have hn' : (4096 : Int) < (n : Int) := by omega
      clear e1 hl h0 h1
      go_enter Try.func3, Try.ntmps3
      go_wp2_with (go_at_call 7; refine cB.mono ?_; rintro e w' ⟨rfl, hw⟩; have hw := hw.symm; subst hw)
      go_ret
      exact ⟨rfl, Below.refl _ _⟩
  · have e1 : lim n m = false := by simp [lim, hl]
    rw [e1] at cB
    clear e1 hl h0 h1
    go_enter Try.func3, Try.ntmps3
    go_wp2_with (go_at_call 7; refine cB.mono ?_; rintro e w' ⟨rfl, hw⟩; have hw := hw.symm; subst hw)
    go_ret
    exact ⟨rfl, Below.refl _ _⟩

end Go.Proofs.Qxb6619756a
