/-
  THE WALK of holdersPerBallot (21).
-/
import Derived.Test.Qxb6619756aWalksF
import Derived.Test.Qxb6619756aCount
import Derived.Laws.CopyOwn
set_option linter.unusedSimpArgs false
set_option linter.unusedVariables false
namespace Go.Proofs.Qxb6619756a
open Go.RowKit

/-- The mask, shifted b times. -/
def sh (e : Int) : Nat → Int
  | 0 => e
  | b + 1 => sh e b / 2
theorem sh_eq (E : Nat) : ∀ b, sh (E : Int) b = ((E / 2 ^ b : Nat) : Int)
  | 0 => by simp [sh]
  | b + 1 => by
    unfold sh
    rw [sh_eq E b, Nat.pow_succ, ← Nat.div_div_eq_div_mul]
    simp
theorem sh_bit (e : Int) (b : Nat) (h0 : 0 ≤ e) (hb : b < 64) : hasBit e b = (bits BinOp.and .u64 (sh e b) 1 != 0) := by
  obtain ⟨E, rfl⟩ := Int.eq_ofNat_of_zero_le h0
  rw [low_bit (E : Int) b h0, sh_eq]
  simp [hb]
theorem sh_nonneg (e : Int) (b : Nat) (h0 : 0 ≤ e) : 0 ≤ sh e b := by
  obtain ⟨E, rfl⟩ := Int.eq_ofNat_of_zero_le h0
  rw [sh_eq]
  exact Int.natCast_nonneg _
theorem sh_lt (e : Int) (b : Nat) (h0 : 0 ≤ e) (h1 : e < 18446744073709551616) : sh e b < 18446744073709551616 := by
  obtain ⟨E, rfl⟩ := Int.eq_ofNat_of_zero_le h0
  rw [sh_eq]
  have := Nat.div_le_self E (2 ^ b)
  omega

theorem size53 : (Try.prog.info? 53).map (·.size) = some 64 := by kernel_rfl
theorem rowK_size (k : IntKind) (zs : List Int) : (rowK k zs).size = zs.length := by simp [rowK]
theorem all_one (k : IntKind) (zs : List Int) : (rowK k zs).all (·.oneCell') = true := by
  rw [Array.all_eq_true_iff_forall_mem]
  intro v hv
  exact one_ints k zs v (by simpa [rowK] using hv)

set_option maxHeartbeats 1000000 in
theorem holders_any (ea : Option Addr) (n : Nat) (es : List Int) (w : World) (hn : n ≤ 4097) (hl : es.length = n) (hO : Own w .u64 28 ea es) (hr : ∀ e ∈ es, 0 ≤ e ∧ e < 18446744073709551616) :
    Calls Try.prog 21 #[.slice ea n n] w fun e w' => e = .returned (.agg (rowK .i64 (counts es))) ∧ Below w.heap.size w w' := by
  have HL := hide hl
  have HR := hide hr
  have HO := hide hO
  clear hl hr hO
  go_enter Try.func21, Try.ntmps21
  go_wp2
  obtain ⟨w1, hw1⟩ : ∃ x, x = w.alloc (.cells (rowK .i64 (List.replicate 64 0)) 53) := ⟨_, rfl⟩
  have hs1 : w1.heap.size = w.heap.size + 1 := by rw [hw1]; simp
  have hB1 : Block w1 w.heap.size (rowK .i64 (List.replicate 64 0)) 53 := by rw [hw1]; exact Block.new _ _ _
  have hb1 : Below w.heap.size w w1 := by rw [hw1]; exact (Below.refl _ _).alloc (Nat.le_refl _) _
  go_loopw [4] (fun p wr => ∃ (k : Nat), p = .int .i64 k ∧ k ≤ n ∧ Below w1.heap.size w1 wr ∧ Block wr (w.heap.size + 1) (rowK .i64 (cnt es k 0)) 53) (fun p _ => n - (intOf p).toNat)
  case atStart =>
    refine ⟨0, rfl, Nat.zero_le _, ?_, ?_⟩
    · rw [hw1]
      exact (Below.refl _ _).alloc (Nat.le_refl _) _
    · rw [cnt_zero, ← hs1, hw1]
      exact Block.new _ _ 53
  case round =>
    obtain ⟨k, rfl, hk, hb, hB⟩ := hrel
    by_cases hlt : k < n
    · rcases unhide HO with ⟨rfl, rfl⟩ | ⟨eb, rfl, hE⟩
      · have := unhide HL; simp at this; omega
      have hEl := hE.lt
      have hE1 := hE.below hb1 hE.lt
      obtain ⟨e, he⟩ : ∃ e, es[k]? = some e := ⟨es[k]'(by have := unhide HL; omega), List.getElem?_eq_getElem _⟩
      have ce := ((hE1.below hb (by omega)).cell k).trans (rowK_some _ es k e he)
      have hre := unhide HR e (List.mem_of_getElem? he)
      have HS : Hid (∀ b, holders (es.take (k + 1)) b = holders (es.take k) b + if hasBit e b = true then 1 else 0) := fun b => holders_snoc es k b e he
      clear hE he
      obtain ⟨w2, hw2⟩ : ∃ x, x = wr := ⟨_, rfl⟩
      subst hw2
      go_wp2
      go_loopw [5, 6] (fun m b wq => ∃ (j : Nat), b = .int .i64 j ∧ j ≤ 64 ∧ m = .int .u64 (sh e j) ∧ Below w1.heap.size w1 wq ∧ Block wq (w.heap.size + 1) (rowK .i64 (cnt es k j)) 53) (fun _ b _ => 64 - (intOf b).toNat)
      case atStart => exact ⟨0, rfl, Nat.zero_le _, rfl, hb, hB⟩
      case round =>
        obtain ⟨j, rfl, hj, rfl, hbq, hBq⟩ := hrel
        by_cases hj64 : j < 64
        · have hj' : (j : Int) < 64 := by omega
          have hsn := sh_nonneg e j hre.1
          have hsl := sh_lt e j hre.1 hre.2
          have hbit := sh_bit e j hre.1 hj64
          have hst := unhide HS j
          have cc := (hBq.cell j).trans (rowK_some _ _ j _ (cnt_at es k j hj64))
          have cf := hBq.frozen
          have hhl := holders_le es k j
          have hset := hBq.setK j
          have hsk := cnt_skip es k j
          have hsp := cnt_step es k j
          cases hx : hasBit e j
          · rw [hx] at hst hbit
            have hsk' := hsk (by simpa using hst)
            rw [hsk'] at hBq
            have HB := hide hBq
            have h0 : (bits BinOp.and .u64 (sh e j) 1 == 0) = true := by simpa using hbit.symm
            clear hset hsk hsp hst hbit hBq hsk' cc cf hhl
            go_wp2
            go_roundw
            case rel => exact ⟨j + 1, by go_num, by omega, rfl, hbq, unhide HB⟩
            case measure => simp [intOf]; omega
          · rw [hx] at hst hbit
            have hB' := hset (((holders (es.take k) j : Nat) : Int) + 1)
            rw [hsp _ (by rw [hst]; simp)] at hB'
            have HB := hide hB'
            have h0 : (bits BinOp.and .u64 (sh e j) 1 == 0) = false := by simpa using hbit.symm
            generalize holders (es.take k) j = hh at *
            clear hset hsk hsp hst hbit hBq hB'
            go_wp2
            go_roundw
            case rel => exact ⟨j + 1, by go_num, by omega, rfl, hbq.setCell (by rw [hs1]; exact Nat.le_refl _) _, unhide HB⟩
            case measure => simp [intOf]; omega
        · have hj64' : j = 64 := by omega
          subst hj64'
          rw [cnt_turn] at hBq
          go_wp2
          go_roundw
          case rel => exact ⟨k + 1, by go_num, by omega, hbq, hBq⟩
          case measure => simp [intOf]; omega
    · rw [cnt_all es k (by have := unhide HL; omega)] at hB
      have hR := hB1.below hb (by omega)
      have hsz : (Try.prog.info? 53).map (·.size) = some (rowK .i64 (counts es)).size := by rw [rowK_size, counts_len]; exact size53
      have hrz : (rowK .i64 (List.replicate 64 0)).size = (rowK .i64 (counts es)).size := by rw [rowK_size, rowK_size, counts_len]; simp
      have h1 := all_one .i64 (counts es)
      have hcs := hide (rfl : rowK .i64 (counts es) = rowK .i64 (counts es))
      generalize hc : rowK .i64 (counts es) = cs at *
      clear hcs
      have HC := hide hc
      clear hc
      have HS := hide hsz
      have HR2 := hide hrz
      have H1 := hide h1
      clear hsz hrz h1
      go_wp2_with (first | refine wpList_load_row rfl 53 _ rfl _ rfl 53 _ (0, 0) _ hB Try.underlying53 rfl (unhide HS) ?_ | refine wpList_store_row rfl 53 _ _ rfl _ _ rfl rfl 53 _ hR (unhide HS) (unhide HR2) (unhide H1) ?_)
      have hbf : Below w.heap.size w wr := hb1.trans (hb.mono hb1.size)
      refine bodyPost_ret (v := .agg cs) (results_cell_row Try.results21 _ _ w.heap.size 53 cs (0, 0) _ rfl (setRow_heap wr _ _ _ 53 _ hR) Try.underlying53 rfl (unhide HS)) rfl ⟨by rw [unhide HC], below_setRow hbf (Nat.le_refl _) _⟩
end Go.Proofs.Qxb6619756a
