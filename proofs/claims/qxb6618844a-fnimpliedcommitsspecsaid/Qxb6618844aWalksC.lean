/-
  THE WALKS of inCommittedPart (18) and of what it calls (19, 20, 21, 22).
-/
import Derived.Test.Qxb6618844aWalksO
set_option linter.unusedSimpArgs false
set_option linter.unusedVariables false
namespace Go.Proofs.Qxb6618844a
open Go.RowKit

set_option maxHeartbeats 400000 in
theorem unended_any (x y : Int) (w : World) : Calls Try.prog 20 #[.agg #[.int .i64 x, .int .i64 y]] w fun e w' => e = .returned (.bool (y != 0)) ∧ Below w.heap.size w w' := by
  go_enter Try.func20, Try.ntmps20
  go_wp2
  go_ret
  exact ⟨rfl, (Below.refl _ _).alloc (Nat.le_refl _) _⟩

def inZ (y : Int) (ended : Bool) : Bool := y == 1 || !ended
set_option maxHeartbeats 400000 in
theorem inPart_any (y : Int) (ended : Bool) (w : World) : Calls Try.prog 21 #[.int .i64 y, .bool ended] w fun e w' => e = .returned (.bool (inZ y ended)) ∧ w' = w := by
  by_cases h : y = 1
  · have h1 : (y == 1) = true := by simp [h]
    have h2 : inZ y ended = true := by simp [inZ, h]
    rw [h2]
    clear h h2
    go_enter Try.func21, Try.ntmps21
    go_wp2
    go_ret
    exact ⟨rfl, rfl⟩
  · have h1 : (y == 1) = false := by simp [h]
    have h2 : inZ y ended = !ended := by simp [inZ, h]
    rw [h2]
    clear h h2
    go_enter Try.func21, Try.ntmps21
    go_wp2
    go_ret
    exact ⟨rfl, rfl⟩

/-- An int that is at least 0 just if b. -/
def RetSign (b : Bool) (e : Ending) : Prop := ∃ r : Int, e = .returned (.int .i64 r) ∧ decide (0 ≤ r) = b

set_option maxHeartbeats 1000000 in
theorem index_any (be n : Nat) (xs : List (Int × Int)) (w : World) (hl : xs.length = n) (hn : n ≤ 1048577) (hX : Block w be (rowE xs) 54) :
    Calls Try.prog 22 #[.slice (some ⟨be, 0, none⟩) n n, .func (.func 20) #[] #[]] w fun e w' => RetSign (anyEnd xs) e ∧ Below w.heap.size w w' := by
  have HL := hide hl
  clear hl
  go_enter Try.func22, Try.ntmps22
  go_wp2
  go_loopw [8] (fun j wr => ∃ (k : Nat), j = .int .i64 k ∧ k ≤ n ∧ Below w.heap.size w wr ∧ Hid (anyEnd (xs.take k) = false)) (fun j _ => n - (intOf j).toNat)
  case atStart => exact ⟨0, rfl, Nat.zero_le _, Below.refl _ _, by simp [Hid, anyEnd]⟩
  case round =>
    obtain ⟨k, rfl, hk, hb, hno⟩ := hrel
    by_cases hlt : k < n
    · have hkl : k < xs.length := by have := unhide HL; omega
      obtain ⟨x, hx⟩ : ∃ x, xs[k]? = some x := ⟨xs[k]'hkl, List.getElem?_eq_getElem _⟩
      obtain ⟨x0, x1⟩ := x
      have hst : Hid (anyEnd (xs.take (k + 1)) = (x1 != 0)) := by
        have h := unhide hno
        unfold Hid
        unfold anyEnd at *
        rw [List.take_add_one, hx, List.any_append, h]
        simp
      have hat : Hid (x1 ≠ 0 → anyEnd xs = true) := fun h => any_at xs k _ hx h
      obtain ⟨c0, c1⟩ := (hX.below hb hX.lt).outc k _ hx
      simp only at c0 c1
      have cU := unended_any x0 x1 wr
      clear hx
      by_cases he : x1 = 0
      · have h0 : (x1 != 0) = false := by simp [he]
        rw [h0] at cU
        have HE := hide h0
        clear he h0
        go_wp2_with (go_at_call 20; refine cU.mono ?_; rintro e w' ⟨rfl, hb'⟩)
        go_roundw
        case rel => exact ⟨k + 1, by go_num, by omega, hb.trans (hb'.mono hb.size), by rw [Hid, unhide hst, unhide HE]⟩
        case measure => simp [intOf]; omega
      · have h0 : (x1 != 0) = true := by simp [he]
        rw [h0] at cU
        have HE := hide (unhide hat he)
        clear he h0
        go_wp2_with (go_at_call 20; refine cU.mono ?_; rintro e w' ⟨rfl, hb'⟩)
        go_ret
        exact ⟨⟨_, rfl, by rw [unhide HE]; simp⟩, hb.trans (hb'.mono hb.size)⟩
    · go_wp2
      go_ret
      have h := unhide hno
      rw [List.take_of_length_le (by have := unhide HL; omega)] at h
      exact ⟨⟨_, rfl, by rw [h]; simp⟩, hb⟩

set_option maxHeartbeats 1000000 in
theorem contains_any (be n : Nat) (xs : List (Int × Int)) (w : World) (hl : xs.length = n) (hn : n ≤ 1048577) (hX : Block w be (rowE xs) 54) :
    Calls Try.prog 19 #[.slice (some ⟨be, 0, none⟩) n n, .func (.func 20) #[] #[]] w fun e w' => e = .returned (.bool (anyEnd xs)) ∧ Below w.heap.size w w' := by
  have cI := index_any be n xs w hl hn hX
  go_enter Try.func19, Try.ntmps19
  go_wp2_with (go_at_call 22; refine cI.mono ?_; rintro e w' ⟨⟨r, rfl, hr⟩, hb'⟩; have HR := hide hr; clear hr)
  go_ret
  exact ⟨by rw [← unhide HR]; rfl, hb'⟩

theorem ins_at (xs : List (Int × Int)) (ended : Bool) (k : Nat) (x : Int × Int) (h : xs[k]? = some x) : (xs.map fun x => inZ x.2 ended)[k]? = some (inZ x.2 ended) := by simp [h]
theorem rowB_fill (bs : List Bool) (n k : Nat) (hl : bs.length = n) (hk : k < n) : (rowB (bs.take k ++ List.replicate (n - k) false))[k]? = some (.bool false) := by
  have h := fill_at bs false n k hl hk
  unfold rowB
  rw [List.getElem?_toArray, List.getElem?_map, h]
  rfl
theorem Block.setB {w : World} {b : Nat} {bs : List Bool} {t : TypeId} (h : Block w b (rowB bs) t) (j : Nat) (x : Bool) : Block (w.setCell ⟨b, j, none⟩ (.bool x)) b (rowB (bs.set j x)) t := by
  have := h.set j (.bool x)
  rwa [rowB_set] at this

set_option maxHeartbeats 1000000 in
theorem inCommitted_any (be n : Nat) (xs : List (Int × Int)) (w : World) (hl : xs.length = n) (hn : n ≤ 1048577) (hX : Block w be (rowE xs) 54) :
    Calls Try.prog 18 #[.slice (some ⟨be, 0, none⟩) n n] w fun e w' => ∃ bi, e = .returned (.slice (some ⟨bi, 0, none⟩) n n) ∧ w.heap.size ≤ bi ∧ Block w' bi (rowB (xs.map fun x => inZ x.2 (anyEnd xs))) 4 ∧ Below w.heap.size w w' := by
  have cC := contains_any be n xs w hl hn hX
  have HIL : Hid ((xs.map fun x => inZ x.2 (anyEnd xs)).length = n) := by unfold Hid; simpa using hl
  have HL := hide hl
  have HIA : Hid (∀ (k : Nat) (x : Int × Int), xs[k]? = some x → (xs.map fun x => inZ x.2 (anyEnd xs))[k]? = some (inZ x.2 (anyEnd xs))) := fun k x h => ins_at xs _ k x h
  have hmk := mkB n hn
  clear hl
  generalize (xs.map fun x => inZ x.2 (anyEnd xs)) = ins at *
  generalize anyEnd xs = ended at *
  go_enter Try.func18, Try.ntmps18
  go_wp2_with (go_at_call 19; refine cC.mono ?_; rintro e w1 ⟨rfl, hb1⟩)
  clear cC hmk
  have hz1 := hb1.size
  go_loopw [14] (fun j wr => ∃ (k : Nat), j = .int .i64 k ∧ k ≤ n ∧ Below w.heap.size w wr ∧ Block wr w1.heap.size (rowB (ins.take k ++ List.replicate (n - k) false)) 4) (fun j _ => n - (intOf j).toNat)
  case atStart =>
    refine ⟨0, rfl, Nat.zero_le _, hb1.alloc hz1 _, ?_⟩
    have h := Block.new w1 (rowB (List.replicate n false)) 4
    simpa using h
  case round =>
    obtain ⟨k, rfl, hk, hb, hB⟩ := hrel
    by_cases hlt : k < n
    · have hkl : k < xs.length := by have := unhide HL; omega
      obtain ⟨x, hx⟩ : ∃ x, xs[k]? = some x := ⟨xs[k]'hkl, List.getElem?_eq_getElem _⟩
      obtain ⟨x0, x1⟩ := x
      have hia := unhide HIA k _ hx
      obtain ⟨c0, c1⟩ := (hX.below hb hX.lt).outc k _ hx
      simp only at c0 c1 hia
      have HI := hide hia
      have cI := fun W => inPart_any x1 ended W
      have hBl := hB.lt
      have hc : wr.cell? ⟨w1.heap.size, k, none⟩ = some (.bool false) := (hB.cell k).trans (rowB_fill ins n k (unhide HIL) hlt)
      have hfz := hB.frozen
      clear hx hia HIA
      go_wp2_with (go_at_call 21; refine (cI _).mono ?_; rintro e w' ⟨rfl, hw⟩; have hw := hw.symm; subst hw)
      go_roundw
      case rel =>
        refine ⟨k + 1, by go_num, by omega, (hb.setCell hz1 _).alloc (by simp; exact hb.size) _, ?_⟩
        have h := (hB.setB k (inZ x1 ended)).alloc (.cells #[.int .i64 x0, .int .i64 x1] 54)
        rw [fill_set ins false _ n k (unhide HIL) hlt (unhide HI)] at h
        exact h
      case measure => simp [intOf]; omega
    · clear HIA
      go_wp2
      go_ret
      rw [fill_all ins false n k (unhide HIL) (by omega)] at hB
      exact ⟨w1.heap.size, rfl, hz1, hB, hb⟩

end Go.Proofs.Qxb6618844a
