/-
  THE WALKS of the guards: zzAddOp (8), zzOpsTooBig (7), zzAnyEnds (13), the bounds on the lengths (6, 14, 15): what they answer matters little: that they answer, and leave memory alone.
-/
import Derived.Test.Qxb6618844aWalksA
set_option linter.unusedSimpArgs false
set_option linter.unusedVariables false
namespace Go.Proofs.Qxb6618844a
open Go.RowKit

/-- An operation whose strings and items lie in w. -/
def ItemsOK (w : World) (o : OpV) : Prop :=
  o.txn.size ≤ 9223372036854775807 ∧ o.il ≤ 9223372036854775807 ∧ (o.il = 0 ∨ ∃ ib io, o.ia = some ⟨ib, io, none⟩ ∧ ∀ j, j < o.il → ∃ s : ByteArray, w.cell? ⟨ib, io + j, none⟩ = some (.string s) ∧ s.size ≤ 9223372036854775807)

theorem lt_of_cell {w : World} {b o : Nat} {v : Value} (h : w.cell? ⟨b, o, none⟩ = some v) : b < w.heap.size := block_lt_of_cell h

theorem ItemsOK.below {w w' : World} {o : OpV} (h : ItemsOK w o) (hb : Below w.heap.size w w') : ItemsOK w' o := by
  obtain ⟨h1, h2, h3⟩ := h
  refine ⟨h1, h2, ?_⟩
  rcases h3 with h3 | ⟨ib, io, he, hall⟩
  · exact .inl h3
  · refine .inr ⟨ib, io, he, fun j hj => ?_⟩
    obtain ⟨s, hc, hs⟩ := hall j hj
    exact ⟨s, (hb.cell (p := ⟨ib, io + j, none⟩) (lt_of_cell hc)).trans hc, hs⟩

set_option maxHeartbeats 1000000 in
theorem addOp_core (sum : Int) (kind : Int) (txn : ByteArray) (site : Int) (sg : Bool) (ia : Option Addr) (il ic : Nat) (w : World) (h1 : txn.size ≤ 9223372036854775807) (h2 : il ≤ 9223372036854775807)
    (hall : ∀ k, k < il → ∃ ib io, ia = some ⟨ib, io, none⟩ ∧ ib < w.heap.size ∧ ∃ s : ByteArray, w.cell? ⟨ib, io + k, none⟩ = some (.string s) ∧ s.size ≤ 9223372036854775807) :
    Calls Try.prog 8 #[.int .i64 sum, .agg #[.int .i64 kind, .string txn, .int .i64 site, .bool sg, .slice ia il ic]] w fun e w' => (∃ m : Int, e = .returned (.int .i64 m)) ∧ Below w.heap.size w w' := by
  have hfin : Below w.heap.size w (w.alloc (.cells #[.int .i64 kind, .string txn, .int .i64 site, .bool sg, .slice ia il ic] 25)) := (Below.refl _ _).alloc (Nat.le_refl _) _
  by_cases g : sum ≤ 1048576 ∧ txn.size ≤ 1048576 ∧ il ≤ 1048576
  · obtain ⟨g1, g2, g3⟩ := g
    have d1 : decide ((1048576 : Int) < sum) = false := by simp; omega
    have d2 : decide ((1048576 : Int) < (txn.size : Int)) = false := by simp; omega
    have d3 : decide ((1048576 : Int) < (il : Int)) = false := by simp; omega
    have hz : il = 0 ∨ 0 < il := by omega
    have hall' : il = 0 ∨ ∃ ib io, ia = some ⟨ib, io, none⟩ := by
      rcases hz with hz | hz
      · exact .inl hz
      · obtain ⟨ib, io, e, _⟩ := hall 0 hz
        exact .inr ⟨ib, io, e⟩
    rcases hall' with hz | ⟨ib, io, rfl⟩
    · have hz' : (il : Int) ≤ 0 := by omega
      clear hall hz
      go_enter Try.func8, Try.ntmps8
      go_wp2
      go_loop [0, 5] (fun s j => ∃ (m : Int), s = .int .i64 m ∧ j = .int .i64 0) (fun _ j => 0)
      case atStart => exact ⟨_, rfl, rfl⟩
      case round =>
        obtain ⟨m, rfl, rfl⟩ := hrel
        go_wp2
        go_ret
        exact ⟨⟨_, rfl⟩, hfin⟩
    · have hal : ∀ k, k < il → ib < w.heap.size ∧ ∃ s : ByteArray, w.cell? ⟨ib, io + k, none⟩ = some (.string s) ∧ s.size ≤ 9223372036854775807 := fun k hk => by
        obtain ⟨ib', io', e, h⟩ := hall k hk
        cases e
        exact h
      have HA := hide hal
      clear hal hall hz
      go_enter Try.func8, Try.ntmps8
      go_wp2
      go_loop [0, 5] (fun s j => ∃ (m : Int) (k : Nat), s = .int .i64 m ∧ j = .int .i64 k ∧ k ≤ il) (fun _ j => il - (intOf j).toNat)
      case atStart => exact ⟨_, 0, rfl, rfl, Nat.zero_le _⟩
      case round =>
        obtain ⟨m, k, rfl, rfl, hk⟩ := hrel
        by_cases hlt : k < il
        · obtain ⟨hib, s, hc, hs⟩ := unhide HA k hlt
          clear HA
          go_wp2
          all_goals first
            | (go_ret; exact ⟨⟨_, rfl⟩, hfin⟩)
            | (go_round
               case rel => exact ⟨_, k + 1, rfl, by go_num, by omega⟩
               case measure => simp [intOf]; omega)
        · clear HA
          go_wp2
          go_ret
          exact ⟨⟨_, rfl⟩, hfin⟩
  · have h' : ¬ (sum ≤ 1048576 ∧ (txn.size : Int) ≤ 1048576 ∧ (il : Int) ≤ 1048576) := by omega
    clear hall
    go_enter Try.func8, Try.ntmps8
    go_wp2
    all_goals first
      | (exfalso; omega)
      | (go_ret; exact ⟨⟨_, rfl⟩, hfin⟩)

theorem addOp_any (sum : Int) (o : OpV) (w : World) (ho : ItemsOK w o) :
    Calls Try.prog 8 #[.int .i64 sum, o.val] w fun e w' => (∃ m : Int, e = .returned (.int .i64 m)) ∧ Below w.heap.size w w' := by
  obtain ⟨h1, h2, h3⟩ := ho
  refine addOp_core sum o.kind o.txn o.site o.sg o.ia o.il o.ic w h1 h2 fun k hk => ?_
  rcases h3 with h3 | ⟨ib, io, he, hall⟩
  · omega
  · obtain ⟨s, hc, hs⟩ := hall k hk
    exact ⟨ib, io, he, lt_of_cell hc, s, hc, hs⟩

end Go.Proofs.Qxb6618844a
