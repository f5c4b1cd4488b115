/-
  THE WALK of the bound on the lengths with one operation more (6).
-/
import Derived.Test.Qxb6618844aWalksL
set_option linter.unusedSimpArgs false
set_option linter.unusedVariables false
namespace Go.Proofs.Qxb6618844a
open Go.RowKit

set_option maxRecDepth 100000 in
set_option maxHeartbeats 8000000 in
theorem bytes6 (a : Option Addr) (n c : Nat) (os : List OpV) (kind0 : Int) (txn0 : ByteArray) (site0 : Int) (sg0 : Bool) (ia0 : Option Addr) (il0 ic0 : Nat) (w : World) (ha : ArgOps w a n os) (ho0 : ItemsOK w ⟨kind0, txn0, site0, sg0, ia0, il0, ic0⟩) :
    Calls Try.prog 6 #[.slice a n c, .agg #[.int .i64 kind0, .string txn0, .int .i64 site0, .bool sg0, .slice ia0 il0 ic0]] w fun e w' => RetLim n e ∧ Below w.heap.size w w' := by
  obtain ⟨hl, hn, h3⟩ := ha
  have hfin : Below w.heap.size w (w.alloc (.cells #[.int .i64 kind0, .string txn0, .int .i64 site0, .bool sg0, .slice ia0 il0 ic0] 25)) := (Below.refl _ _).alloc (Nat.le_refl _) _
  by_cases hL : n ≤ 1048576
  · have d0 : decide ((1048576 : Int) < (n : Int)) = false := by simp; omega
    have HA := hide h3
    have HL := hide hl
    obtain ⟨j1, j2, j3⟩ := ho0
    simp only at j1 j2 j3
    have HJ := hide j3
    clear h3 hl j3
    go_enter Try.func6, Try.ntmps6
    go_wp2
    go_loop [5, 6] (fun s j => ∃ (z : Int) (k : Nat), s = .int .i64 z ∧ j = .int .i64 k ∧ k ≤ n ∧ 0 ≤ z ∧ z ≤ 1048576) (fun _ j => n - (intOf j).toNat)
    case atStart => exact ⟨n, 0, by simp, rfl, Nat.zero_le _, by omega, by omega⟩
    case round =>
      obtain ⟨z, k, rfl, rfl, hk, hz0, hz1⟩ := hrel
      by_cases hlt : k < n
      · rcases unhide HA with h3 | ⟨b, off, rfl, hall⟩
        · omega
        obtain ⟨o, ho⟩ : ∃ o, os[k]? = some o := ⟨os[k]'(by have := unhide HL; omega), List.getElem?_eq_getElem _⟩
        obtain ⟨hi, hop⟩ := hall k o ho
        clear ho HA hall HJ
        obtain ⟨kind, txn, site, sg, ia, il, ic⟩ := o
        obtain ⟨c0, c1, c2, c3, c4⟩ := hop
        obtain ⟨i1, i2, i3⟩ := hi
        simp only at c0 c1 c2 c3 c4 i1 i2 i3
        have hbl := lt_of_cell c0
        by_cases hP : txn.size ≤ 1048576 ∧ z + txn.size ≤ 1048576 ∧ il ≤ 1048576 ∧ z + txn.size + il ≤ 1048576
        · obtain ⟨p1, p2, p3, p4⟩ := hP
          have d1 : decide ((1048576 : Int) < (txn.size : Int)) = false := by simp; omega
          have d2 : decide ((1048576 : Int) < z + (txn.size : Int)) = false := by simp; omega
          have d3 : decide ((1048576 : Int) < (il : Int)) = false := by simp; omega
          have d4 : decide ((1048576 : Int) < z + (txn.size : Int) + (il : Int)) = false := by simp; omega
          have HI := hide i3
          clear i3
          go_wp2
          go_loop [5, 7] (fun s j => ∃ (z' : Int) (m : Nat), s = .int .i64 z' ∧ j = .int .i64 m ∧ m ≤ il ∧ 0 ≤ z' ∧ z' ≤ 1048576) (fun _ j => il - (intOf j).toNat)
          case atStart => exact ⟨_, 0, rfl, rfl, Nat.zero_le _, by omega, by omega⟩
          case round =>
            obtain ⟨z', m, rfl, rfl, hm, hy0, hy1⟩ := hrel
            by_cases hml : m < il
            · rcases unhide HI with i3 | ⟨ib, io, rfl, hit⟩
              · omega
              obtain ⟨t, ct, ht⟩ := hit m hml
              have hibl := lt_of_cell ct
              clear HI hit
              by_cases hQ : t.size ≤ 1048576 ∧ z' + t.size ≤ 1048576
              · obtain ⟨q1, q2⟩ := hQ
                have e1 : decide ((1048576 : Int) < (t.size : Int)) = false := by simp; omega
                have e2 : decide ((1048576 : Int) < z' + (t.size : Int)) = false := by simp; omega
                go_wp2
                go_round
                case rel => exact ⟨_, m + 1, rfl, by go_num, by omega, by omega, by omega⟩
                case measure => simp [intOf]; omega
              · have hQ' : ¬ ((t.size : Int) ≤ 1048576 ∧ z' + (t.size : Int) ≤ 1048576) := by omega
                go_wp2
                all_goals first
                  | (exfalso; omega)
                  | (go_ret; exact ⟨RetLim.no _, hfin⟩)
            · clear HI
              go_wp2
              go_round
              case rel => exact ⟨_, k + 1, rfl, by go_num, by omega, by omega, by omega⟩
              case measure => simp [intOf]; omega
        · have hP' : ¬ ((txn.size : Int) ≤ 1048576 ∧ z + (txn.size : Int) ≤ 1048576 ∧ (il : Int) ≤ 1048576 ∧ z + (txn.size : Int) + (il : Int) ≤ 1048576) := by omega
          clear i3
          go_wp2
          all_goals first
            | (exfalso; omega)
            | (go_ret; exact ⟨RetLim.no _, hfin⟩)
      · clear HA
        by_cases hP : txn0.size ≤ 1048576 ∧ z + txn0.size ≤ 1048576 ∧ il0 ≤ 1048576 ∧ z + txn0.size + il0 ≤ 1048576
        · obtain ⟨p1, p2, p3, p4⟩ := hP
          have d1 : decide ((1048576 : Int) < (txn0.size : Int)) = false := by simp; omega
          have d2 : decide ((1048576 : Int) < z + (txn0.size : Int)) = false := by simp; omega
          have d3 : decide ((1048576 : Int) < (il0 : Int)) = false := by simp; omega
          have d4 : decide ((1048576 : Int) < z + (txn0.size : Int) + (il0 : Int)) = false := by simp; omega
          go_wp2
          go_loop [5, 8] (fun s j => ∃ (z' : Int) (m : Nat), s = .int .i64 z' ∧ j = .int .i64 m ∧ m ≤ il0 ∧ 0 ≤ z' ∧ z' ≤ 1048576) (fun _ j => il0 - (intOf j).toNat)
          case atStart => exact ⟨_, 0, rfl, rfl, Nat.zero_le _, by omega, by omega⟩
          case round =>
            obtain ⟨z', m, rfl, rfl, hm, hy0, hy1⟩ := hrel
            by_cases hml : m < il0
            · rcases unhide HJ with i3 | ⟨ib, io, rfl, hit⟩
              · omega
              obtain ⟨t, ct, ht⟩ := hit m hml
              have hibl := lt_of_cell ct
              clear HJ hit
              by_cases hQ : t.size ≤ 1048576 ∧ z' + t.size ≤ 1048576
              · obtain ⟨q1, q2⟩ := hQ
                have e1 : decide ((1048576 : Int) < (t.size : Int)) = false := by simp; omega
                have e2 : decide ((1048576 : Int) < z' + (t.size : Int)) = false := by simp; omega
                go_wp2
                go_round
                case rel => exact ⟨_, m + 1, rfl, by go_num, by omega, by omega, by omega⟩
                case measure => simp [intOf]; omega
              · have hQ' : ¬ ((t.size : Int) ≤ 1048576 ∧ z' + (t.size : Int) ≤ 1048576) := by omega
                go_wp2
                all_goals first
                  | (exfalso; omega)
                  | (go_ret; exact ⟨RetLim.no _, hfin⟩)
            · clear HJ
              go_wp2
              go_ret
              exact ⟨RetLim.yes hL _, hfin⟩
        · have hP' : ¬ ((txn0.size : Int) ≤ 1048576 ∧ z + (txn0.size : Int) ≤ 1048576 ∧ (il0 : Int) ≤ 1048576 ∧ z + (txn0.size : Int) + (il0 : Int) ≤ 1048576) := by omega
          clear HJ
          go_wp2
          all_goals first
            | (exfalso; omega)
            | (go_ret; exact ⟨RetLim.no _, hfin⟩)
  · have hL' : ¬ (n : Int) ≤ 1048576 := by omega
    clear h3 ho0
    go_enter Try.func6, Try.ntmps6
    go_wp2
    go_ret
    exact ⟨RetLim.no _, hfin⟩

end Go.Proofs.Qxb6618844a
