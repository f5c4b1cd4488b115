/-
  THE WALK of zzHistory (9).
-/
import Derived.Test.Qxb6618844aWalksH
import Derived.Test.Qxb6618844aMake
set_option linter.unusedSimpArgs false
set_option linter.unusedVariables false
namespace Go.Proofs.Qxb6618844a
open Go.RowKit

/-- A history that the call made: nil, or a block of its own. -/
def Hist (w : World) (B : Nat) (v : Value) (os : List OpV) : Prop :=
  (v = .slice none 0 0 ∧ os = []) ∨ ∃ b, B ≤ b ∧ v = .slice (some ⟨b, 0, none⟩) os.length os.length ∧ Block w b (rowO os) 36

set_option maxHeartbeats 1000000 in
theorem history_some (b off n c : Nat) (os : List OpV) (w : World) (hl : os.length = n) (hn : n ≤ 1048576) (hall : ∀ k o, os[k]? = some o → OpAt w b off k o) :
    Calls Try.prog 9 #[.slice (some ⟨b, off, none⟩) n c] w fun e w' => ∃ v, e = .returned v ∧ Hist w' w.heap.size v os ∧ Below w.heap.size w w' := by
  have hmk := mkO n (by omega)
  have heq := fun (W : World) (a : Option Addr) => Lib.run_eql_slice_nil W 22 25 a n c 0 0 Try.underlying22
  have HA := hide hall
  have HL := hide hl
  clear hall hl
  go_enter Try.func9, Try.ntmps9
  go_wp2
  go_loopw [4] (fun j wr => ∃ (k : Nat), j = .int .i64 k ∧ k ≤ n ∧ Below w.heap.size w wr ∧ Block wr w.heap.size (rowO (os.take k ++ List.replicate (n - k) zeroOp)) 36) (fun j _ => n - (intOf j).toNat)
  case atStart => exact ⟨0, rfl, Nat.zero_le _, (Below.refl _ _).alloc (Nat.le_refl _) _, by simpa using Block.new w (rowO (List.replicate n zeroOp)) 36⟩
  case round =>
    obtain ⟨k, rfl, hk, hb, hB⟩ := hrel
    by_cases hlt : k < n
    · obtain ⟨o, ho⟩ : ∃ o, os[k]? = some o := ⟨os[k]'(by have := unhide HL; omega), List.getElem?_eq_getElem _⟩
      have hop := unhide HA k o ho
      obtain ⟨c0, c1, c2, c3, c4⟩ := hop.below hb
      have cZ := zzOp_any o wr
      unfold OpV.val at cZ
      have hkl : k < os.length := by have := unhide HL; omega
      have hz := fill_at os zeroOp n k (unhide HL) hlt
      have HO := hide ho
      have HZ := hide hz
      clear HA ho hz hop
      go_wp2_with (go_at_call 11; refine cZ.mono ?_; rintro e w' ⟨rfl, hb'⟩; have hB' := hB.below hb' hB.lt; obtain ⟨e0, e1, e2, e3, e4⟩ := hB'.op k zeroOp (unhide HZ); have hfr := hB'.frozen)
      go_roundw
      case rel =>
        refine ⟨k + 1, by go_num, by omega, ?_, ?_⟩
        · exact (((((hb.trans (hb'.mono hb.size)).setCell (Nat.le_refl _) _).setCell (Nat.le_refl _) _).setCell (Nat.le_refl _) _).setCell (Nat.le_refl _) _).setCell (Nat.le_refl _) _
        · have h := hB'.setOp k zeroOp o (unhide HZ)
          rw [fill_set os zeroOp o n k (unhide HL) hlt (unhide HO)] at h
          exact h
      case measure => simp [intOf]; omega
    · clear HA
      go_wp2
      go_ret
      refine ⟨_, rfl, .inr ⟨w.heap.size, Nat.le_refl _, ?_, ?_⟩, hb⟩
      · rw [unhide HL]; rfl
      · rw [fill_all os zeroOp n k (unhide HL) (by omega)] at hB
        exact hB

set_option maxHeartbeats 1000000 in
theorem history_none (n c : Nat) (w : World) :
    Calls Try.prog 9 #[.slice none n c] w fun e w' => e = .returned (.slice none 0 0) ∧ w' = w := by
  have heq := fun (W : World) (a : Option Addr) => Lib.run_eql_slice_nil W 22 25 a n c 0 0 Try.underlying22
  go_enter Try.func9, Try.ntmps9
  go_wp2
  go_ret
  exact ⟨rfl, rfl⟩

set_option maxHeartbeats 1000000 in
theorem history_empty (a : Addr) (c : Nat) (w : World) :
    Calls Try.prog 9 #[.slice (some a) 0 c] w fun e w' => ∃ v, e = .returned v ∧ Hist w' w.heap.size v [] ∧ Below w.heap.size w w' := by
  have hmk : ∀ W : World, (Instr.makeSlice 31 (.int .i64 0) (.int .i64 0)).run Try.prog W = .ok (.slice (some ⟨W.heap.size, 0, none⟩) 0 0) (W.alloc (.cells (rowO (List.replicate 0 zeroOp)) 36)) := mkO 0 (by omega)
  have heq := fun (W : World) (a : Option Addr) => Lib.run_eql_slice_nil W 22 25 a 0 c 0 0 Try.underlying22
  go_enter Try.func9, Try.ntmps9
  go_wp2
  go_loop [4] (fun j => j = .int .i64 0) (fun j => 0)
  case atStart => exact rfl
  case round =>
    obtain rfl := hrel
    go_wp2
    go_ret
    exact ⟨_, rfl, .inr ⟨w.heap.size, Nat.le_refl _, rfl, Block.new w _ 36⟩, (Below.refl _ _).alloc (Nat.le_refl _) _⟩

theorem history_any (a : Option Addr) (n c : Nat) (os : List OpV) (w : World) (hn : n ≤ 1048576) (ha : ArgOps w a n os) :
    Calls Try.prog 9 #[.slice a n c] w fun e w' => ∃ v, e = .returned v ∧ Hist w' w.heap.size v os ∧ Below w.heap.size w w' := by
  obtain ⟨hl, _, h3⟩ := ha
  rcases h3 with h3 | ⟨b, off, rfl, hall⟩
  · subst h3
    obtain rfl : os = [] := List.length_eq_zero_iff.1 hl
    cases a with
    | none => exact (history_none 0 c w).mono fun e w' ⟨he, hw⟩ => ⟨_, he, .inl ⟨rfl, rfl⟩, hw ▸ Below.refl _ _⟩
    | some a => exact history_empty a c w
  · exact history_some b off n c os w hl hn fun k o ho => (hall k o ho).2

end Go.Proofs.Qxb6618844a
