/-
  THE WALKS of the bounds on the lengths (14, 15).
-/
import Derived.Test.Qxb6618844aWalksH
set_option linter.unusedSimpArgs false
set_option linter.unusedVariables false
namespace Go.Proofs.Qxb6618844a
open Go.RowKit

/-- Some bool; where it is true, n is within the limit. -/
def RetLim (n : Nat) (e : Ending) : Prop := ∃ m : Bool, e = .returned (.bool m) ∧ (m = true → n ≤ 1048576)
theorem RetLim.no (n : Nat) : RetLim n (.returned (.bool false)) := ⟨false, rfl, fun h => by cases h⟩
theorem RetLim.yes {n : Nat} (h : n ≤ 1048576) (b : Bool) : RetLim n (.returned (.bool b)) := ⟨b, rfl, fun _ => h⟩

set_option maxRecDepth 100000 in
set_option maxHeartbeats 4000000 in
theorem bytes14 (a : Option Addr) (n c : Nat) (os : List OpV) (w : World) (ha : ArgOps w a n os) :
    Calls Try.prog 14 #[.slice a n c] w fun e w' => RetLim n e ∧ w' = w := by
  obtain ⟨hl, hn, h3⟩ := ha
  by_cases hL : n ≤ 1048576
  · have d0 : decide ((1048576 : Int) < (n : Int)) = false := by simp; omega
    rcases h3 with h3 | ⟨b, off, rfl, hall⟩
    · have hz' : (n : Int) ≤ 0 := by omega
      clear h3 hl
      go_enter Try.func14, Try.ntmps14
      go_wp2
      go_loop [3, 4] (fun s j => s = .int .i64 n ∧ j = .int .i64 0) (fun _ j => 0)
      case atStart => exact ⟨by simp, rfl⟩
      case round =>
        obtain ⟨rfl, rfl⟩ := hrel
        go_wp2
        go_ret
        exact ⟨RetLim.yes hL _, rfl⟩
    · have HA := hide hall
      have HL := hide hl
      clear hall hl
      go_enter Try.func14, Try.ntmps14
      go_wp2
      go_loop [3, 4] (fun s j => ∃ (z : Int) (k : Nat), s = .int .i64 z ∧ j = .int .i64 k ∧ k ≤ n ∧ 0 ≤ z ∧ z ≤ 1048576) (fun _ j => n - (intOf j).toNat)
      case atStart => exact ⟨n, 0, by simp, rfl, Nat.zero_le _, by omega, by omega⟩
      case round =>
        obtain ⟨z, k, rfl, rfl, hk, hz0, hz1⟩ := hrel
        by_cases hlt : k < n
        · obtain ⟨o, ho⟩ : ∃ o, os[k]? = some o := ⟨os[k]'(by have := unhide HL; omega), List.getElem?_eq_getElem _⟩
          obtain ⟨hi, hop⟩ := unhide HA k o ho
          clear ho HA
          obtain ⟨kind, txn, site, sg, ia, il, ic⟩ := o
          obtain ⟨c0, c1, c2, c3, c4⟩ := hop
          obtain ⟨i1, i2, i3⟩ := hi
          simp only at c0 c1 c2 c3 c4 i1 i2 i3
          by_cases hP : txn.size ≤ 1048576 ∧ z + txn.size ≤ 1048576 ∧ il ≤ 1048576 ∧ z + txn.size + il ≤ 1048576
          · obtain ⟨p1, p2, p3, p4⟩ := hP
            have d1 : decide ((1048576 : Int) < (txn.size : Int)) = false := by simp; omega
            have d2 : decide ((1048576 : Int) < z + (txn.size : Int)) = false := by simp; omega
            have d3 : decide ((1048576 : Int) < (il : Int)) = false := by simp; omega
            have d4 : decide ((1048576 : Int) < z + (txn.size : Int) + (il : Int)) = false := by simp; omega
            rcases i3 with i3 | ⟨ib, io, rfl, hit⟩
            · have hz' : (il : Int) ≤ 0 := by omega
              clear i3
              go_wp2
              go_loop [3, 5] (fun s j => s = .int .i64 (z + (txn.size : Int) + (il : Int)) ∧ j = .int .i64 0) (fun _ j => 0)
              case atStart => exact ⟨rfl, rfl⟩
              case round =>
                obtain ⟨rfl, rfl⟩ := hrel
                go_wp2
                go_round
                case rel => exact ⟨_, k + 1, rfl, by go_num, by omega, by omega, by omega⟩
                case measure => simp [intOf]; omega
            · have HI := hide hit
              clear hit
              go_wp2
              go_loop [3, 5] (fun s j => ∃ (z' : Int) (m : Nat), s = .int .i64 z' ∧ j = .int .i64 m ∧ m ≤ il ∧ 0 ≤ z' ∧ z' ≤ 1048576) (fun _ j => il - (intOf j).toNat)
              case atStart => exact ⟨_, 0, rfl, rfl, Nat.zero_le _, by omega, by omega⟩
              case round =>
                obtain ⟨z', m, rfl, rfl, hm, hy0, hy1⟩ := hrel
                by_cases hml : m < il
                · obtain ⟨t, ct, ht⟩ := unhide HI m hml
                  clear HI
                  by_cases hQ : t.size ≤ 1048576 ∧ z' + t.size ≤ 1048576
                  · obtain ⟨q1, q2⟩ := hQ
                    have e1 : decide ((1048576 : Int) < (t.size : Int)) = false := by simp; omega
                    have e2 : decide ((1048576 : Int) < z' + (t.size : Int)) = false := by simp; omega
                    go_wp2
                    go_round
                    case rel => exact ⟨_, m + 1, rfl, by go_num, by omega, by omega, by omega⟩
                    case measure => simp [intOf]; omega
                  · have hQ' : ¬ ((t.size : Int) ≤ 1048576 ∧ z' + (t.size : Int) ≤ 1048576) := by omega
                    go_wp2
                    all_goals first
                      | (exfalso; omega)
                      | (go_ret; exact ⟨RetLim.no _, rfl⟩)
                · clear HI
                  go_wp2
                  go_round
                  case rel => exact ⟨_, k + 1, rfl, by go_num, by omega, by omega, by omega⟩
                  case measure => simp [intOf]; omega
          · have hP' : ¬ ((txn.size : Int) ≤ 1048576 ∧ z + (txn.size : Int) ≤ 1048576 ∧ (il : Int) ≤ 1048576 ∧ z + (txn.size : Int) + (il : Int) ≤ 1048576) := by omega
            clear i3
            go_wp2
            all_goals first
              | (exfalso; omega)
              | (go_ret; exact ⟨RetLim.no _, rfl⟩)
        · clear HA
          go_wp2
          go_ret
          exact ⟨RetLim.yes hL _, rfl⟩
  · have hL' : ¬ (n : Int) ≤ 1048576 := by omega
    clear h3
    go_enter Try.func14, Try.ntmps14
    go_wp2
    go_ret
    exact ⟨RetLim.no _, rfl⟩

set_option maxRecDepth 100000 in
set_option maxHeartbeats 4000000 in
theorem bytes15 (a : Option Addr) (n c : Nat) (os : List OpV) (j0 k0 : Int) (w : World) (ha : ArgOps w a n os) :
    Calls Try.prog 15 #[.slice a n c, .int .i64 j0, .int .i64 k0] w fun e w' => RetLim n e ∧ w' = w := by
  obtain ⟨hl, hn, h3⟩ := ha
  by_cases hL : n ≤ 1048576
  · have d0 : decide ((1048576 : Int) < (n : Int)) = false := by simp; omega
    rcases h3 with h3 | ⟨b, off, rfl, hall⟩
    · have hz' : (n : Int) ≤ 0 := by omega
      clear h3 hl
      go_enter Try.func15, Try.ntmps15
      go_wp2
      go_loop [7, 8] (fun s j => s = .int .i64 n ∧ j = .int .i64 0) (fun _ j => 0)
      case atStart => exact ⟨by simp, rfl⟩
      case round =>
        obtain ⟨rfl, rfl⟩ := hrel
        go_wp2
        go_ret
        exact ⟨RetLim.yes hL _, rfl⟩
    · have HA := hide hall
      have HL := hide hl
      clear hall hl
      go_enter Try.func15, Try.ntmps15
      go_wp2
      go_loop [7, 8] (fun s j => ∃ (z : Int) (k : Nat), s = .int .i64 z ∧ j = .int .i64 k ∧ k ≤ n ∧ 0 ≤ z ∧ z ≤ 1048576) (fun _ j => n - (intOf j).toNat)
      case atStart => exact ⟨n, 0, by simp, rfl, Nat.zero_le _, by omega, by omega⟩
      case round =>
        obtain ⟨z, k, rfl, rfl, hk, hz0, hz1⟩ := hrel
        by_cases hlt : k < n
        · obtain ⟨o, ho⟩ : ∃ o, os[k]? = some o := ⟨os[k]'(by have := unhide HL; omega), List.getElem?_eq_getElem _⟩
          obtain ⟨hi, hop⟩ := unhide HA k o ho
          clear ho HA
          obtain ⟨kind, txn, site, sg, ia, il, ic⟩ := o
          obtain ⟨c0, c1, c2, c3, c4⟩ := hop
          obtain ⟨i1, i2, i3⟩ := hi
          simp only at c0 c1 c2 c3 c4 i1 i2 i3
          by_cases hP : txn.size ≤ 1048576 ∧ z + txn.size ≤ 1048576 ∧ il ≤ 1048576 ∧ z + txn.size + il ≤ 1048576
          · obtain ⟨p1, p2, p3, p4⟩ := hP
            have d1 : decide ((1048576 : Int) < (txn.size : Int)) = false := by simp; omega
            have d2 : decide ((1048576 : Int) < z + (txn.size : Int)) = false := by simp; omega
            have d3 : decide ((1048576 : Int) < (il : Int)) = false := by simp; omega
            have d4 : decide ((1048576 : Int) < z + (txn.size : Int) + (il : Int)) = false := by simp; omega
            rcases i3 with i3 | ⟨ib, io, rfl, hit⟩
            · have hz' : (il : Int) ≤ 0 := by omega
              clear i3
              go_wp2
              go_loop [7, 9] (fun s j => s = .int .i64 (z + (txn.size : Int) + (il : Int)) ∧ j = .int .i64 0) (fun _ j => 0)
              case atStart => exact ⟨rfl, rfl⟩
              case round =>
                obtain ⟨rfl, rfl⟩ := hrel
                go_wp2
                go_round
                case rel => exact ⟨_, k + 1, rfl, by go_num, by omega, by omega, by omega⟩
                case measure => simp [intOf]; omega
            · have HI := hide hit
              clear hit
              go_wp2
              go_loop [7, 9] (fun s j => ∃ (z' : Int) (m : Nat), s = .int .i64 z' ∧ j = .int .i64 m ∧ m ≤ il ∧ 0 ≤ z' ∧ z' ≤ 1048576) (fun _ j => il - (intOf j).toNat)
              case atStart => exact ⟨_, 0, rfl, rfl, Nat.zero_le _, by omega, by omega⟩
              case round =>
                obtain ⟨z', m, rfl, rfl, hm, hy0, hy1⟩ := hrel
                by_cases hml : m < il
                · obtain ⟨t, ct, ht⟩ := unhide HI m hml
                  clear HI
                  by_cases hQ : t.size ≤ 1048576 ∧ z' + t.size ≤ 1048576
                  · obtain ⟨q1, q2⟩ := hQ
                    have e1 : decide ((1048576 : Int) < (t.size : Int)) = false := by simp; omega
                    have e2 : decide ((1048576 : Int) < z' + (t.size : Int)) = false := by simp; omega
                    go_wp2
                    go_round
                    case rel => exact ⟨_, m + 1, rfl, by go_num, by omega, by omega, by omega⟩
                    case measure => simp [intOf]; omega
                  · have hQ' : ¬ ((t.size : Int) ≤ 1048576 ∧ z' + (t.size : Int) ≤ 1048576) := by omega
                    go_wp2
                    all_goals first
                      | (exfalso; omega)
                      | (go_ret; exact ⟨RetLim.no _, rfl⟩)
                · clear HI
                  go_wp2
                  go_round
                  case rel => exact ⟨_, k + 1, rfl, by go_num, by omega, by omega, by omega⟩
                  case measure => simp [intOf]; omega
          · have hP' : ¬ ((txn.size : Int) ≤ 1048576 ∧ z + (txn.size : Int) ≤ 1048576 ∧ (il : Int) ≤ 1048576 ∧ z + (txn.size : Int) + (il : Int) ≤ 1048576) := by omega
            clear i3
            go_wp2
            all_goals first
              | (exfalso; omega)
              | (go_ret; exact ⟨RetLim.no _, rfl⟩)
        · clear HA
          go_wp2
          go_ret
          exact ⟨RetLim.yes hL _, rfl⟩
  · have hL' : ¬ (n : Int) ≤ 1048576 := by omega
    clear h3
    go_enter Try.func15, Try.ntmps15
    go_wp2
    go_ret
    exact ⟨RetLim.no _, rfl⟩

end Go.Proofs.Qxb6618844a
