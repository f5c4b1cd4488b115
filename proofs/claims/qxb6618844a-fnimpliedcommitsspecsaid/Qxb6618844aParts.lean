/-
  PARTS of the walk of numbers (16): its memory as one relation, and what each way of a round does to it.
-/
import Derived.Test.Qxb6618844aWalksI
import Derived.Test.Qxb6618844aPlain
import Derived.Maps.OwnSet
set_option linter.unusedSimpArgs false
set_option linter.unusedVariables false
namespace Go.Proofs.Qxb6618844a
open Go.RowKit Go.Maps

/-- The map holds each identifier's number, and nothing else. -/
def MapIs (D : DataW Unit) (ids : List (List UInt8)) : Prop :=
  IsMap D ∧ (∀ t, Maps.has D (.string t) = decide (t ∈ ids)) ∧ ∀ t, t ∈ ids → ∀ z, D.atKey (.string t) z = .lit (.int .i64 (Imp.num ids t : Int))
theorem MapIs.empty : MapIs (.map []) [] := ⟨isMap_empty, fun t => by simp [has_eq], fun t h => by simp at h⟩
theorem keyLit (t : List UInt8) : WideAt.IsKeyLit (.string t) := trivial
theorem MapIs.put {D : DataW Unit} {ids : List (List UInt8)} (h : MapIs D ids) (t : List UInt8) (ht : t ∉ ids) : MapIs (D.put (.string t) (.lit (.int .i64 (ids.length : Int)))) (ids ++ [t]) := by
  obtain ⟨h1, h2, h3⟩ := h
  refine ⟨h1.put _ _, fun s => ?_, fun s hs z => ?_⟩
  · by_cases e : s = t
    · subst e
      rw [has_put_same h1 (keyLit s)]
      simp
    · rw [has_put_other (by simpa using e), h2 s]
      simp [e]
  · by_cases e : s = t
    · subst e
      rw [atKey_put_same h1 (keyLit s), Imp.num_fresh _ _ ht]
    · have hm : s ∈ ids := by simpa [e] using hs
      rw [atKey_put_other (by simpa using e), h3 s hm z, Imp.num_old _ _ _ hm]

theorem Block.grown {w w' : World} {b : Nat} {cs : Array Value} {t : TypeId} {row : Option Nat} (h : Block w b cs t) (hg : w.grownBy w' row) (hne : some b ≠ row) : Block w' b cs t := (hg.block b h.lt hne).trans h

structure NInv (w wr : World) (n k : Nat) (ids : List (List UInt8)) (zs : List Int) (ia : Option Addr) (ic : Nat) : Prop where
  bel : Below w.heap.size w wr
  b0 : Block wr w.heap.size #[.slice none 0 0, .slice none 0 0] 45
  b2 : Block wr (w.heap.size + 1 + 1) (rowI zs) 3
  b3 : Block wr (w.heap.size + 1 + 1 + 1) #[.slice ia ids.length ic, .slice (some ⟨w.heap.size + 1 + 1, 0, none⟩) n n] 45
  own : ∃ xs, wr.ownsRow (w.heap.size + 1 + 1 + 1 + 1) 9 1 (.slice ia ids.length ic) ids.length xs
  mp : ∃ D : DataW Unit, wr.ownsMap Try.prog 9 (plainElem Try.prog 3) (w.heap.size + 1) k D ∧ MapIs D ids

theorem NInv.start (w : World) (n : Nat) : NInv w ((((w.alloc (.cells #[.slice none 0 0, .slice none 0 0] 45)).alloc (.map #[] 0)).alloc (.cells (rowI (List.replicate n 0)) 3)).alloc (.cells #[.slice none 0 0, .slice (some ⟨w.heap.size + 1 + 1, 0, none⟩) n n] 45)) n 0 [] (List.replicate n 0) none 0 where
  bel := ((((Below.refl _ _).alloc (Nat.le_refl _) _).alloc (by simp) _).alloc (by simp; omega) _).alloc (by simp; omega) _
  b0 := (((Block.new w _ 45).alloc _).alloc _).alloc _
  b2 := by
    have h := (Block.new ((w.alloc (.cells #[.slice none 0 0, .slice none 0 0] 45)).alloc (.map #[] 0)) (rowI (List.replicate n 0)) 3).alloc (.cells #[.slice none 0 0, .slice (some ⟨w.heap.size + 1 + 1, 0, none⟩) n n] 45)
    simpa using h
  b3 := by
    have h := Block.new (((w.alloc (.cells #[.slice none 0 0, .slice none 0 0] 45)).alloc (.map #[] 0)).alloc (.cells (rowI (List.replicate n 0)) 3)) #[.slice none 0 0, .slice (some ⟨w.heap.size + 1 + 1, 0, none⟩) n n] 45
    simpa using h
  own := ⟨[], World.ownsRow_nil _ _ _ _⟩
  mp := ⟨.map [], by
    have h := ((World.ownsMap_made (w.alloc (.cells #[.slice none 0 0, .slice none 0 0] 45)) Try.prog 9 (plainElem (H := Unit) Try.prog 3)).alloc (.cells (rowI (List.replicate n 0)) 3)).alloc (.cells #[.slice none 0 0, .slice (some ⟨w.heap.size + 1 + 1, 0, none⟩) n n] 45)
    simpa using h, MapIs.empty⟩

variable {w wr : World} {n k : Nat} {ids : List (List UInt8)} {zs : List Int} {ia : Option Addr} {ic : Nat}

theorem NInv.drewN (h : NInv w wr n k ids zs ia ic) (q : Nat) : NInv w (wr.drewN q) n k ids zs ia ic :=
  ⟨below_drewN h.bel q, h.b0, h.b2, h.b3, h.own, h.mp⟩

/-- 'n.of[k] = z'. -/
theorem NInv.setOf (h : NInv w wr n k ids zs ia ic) (j : Nat) (z : Int) : NInv w (wr.setCell ⟨w.heap.size + 1 + 1, j, none⟩ (.int .i64 z)) n k ids (zs.set j z) ia ic := by
  obtain ⟨xs, ho⟩ := h.own
  obtain ⟨D, hm, hD⟩ := h.mp
  refine ⟨h.bel.setCell (by simp; omega) _, h.b0.other _ (by simp; omega), ?_, h.b3.other _ (by simp), ⟨xs, ?_⟩, ⟨D, hm.setCell (by simp) _, hD⟩⟩
  · have := h.b2.set j (.int .i64 z)
    rwa [rowI_set] at this
  · refine ho.kept (w' := wr.setCell ⟨w.heap.size + 1 + 1, j, none⟩ (.int .i64 z)) (row := some (w.heap.size + 1 + 1)) ⟨rfl, rfl, rfl, by simp, fun i _ hi => heap_setCell_other wr _ i _ (fun e => hi (by rw [e]))⟩ ?_
    cases ia with
    | none => exact .inl rfl
    | some a =>
      right
      intro e
      have := ho.lt a.block rfl
      have e' : a.block = w.heap.size + 1 + 1 := by simpa [Value.ownBlock] using e
      omega
theorem NInv.more (h : NInv w wr n k ids zs ia ic) : NInv w wr n (k + 1) ids zs ia ic := by
  obtain ⟨D, hm, hD⟩ := h.mp
  exact ⟨h.bel, h.b0, h.b2, h.b3, h.own, ⟨D, hm.mono (Nat.le_succ _), hD⟩⟩

/-- A new identifier: the map's store, then the append, then the field's store. -/
theorem NInv.add (h : NInv w wr n k ids zs ia ic) (t : List UInt8) (ht : t ∉ ids) {D : DataW Unit} (hD : MapIs D ids) {w1 w2 : World} {O : Obj} {ia' : Option Addr} {ic' : Nat} {xs : List Value}
    (hm : w1.ownsMap Try.prog 9 (plainElem Try.prog 3) (w.heap.size + 1) (k + 1) (D.put (.string t) (.lit (.int .i64 (ids.length : Int))))) (hg : wr.grownBy w1 (some (w.heap.size + 1)))
    (ho : w2.ownsRow (w.heap.size + 1 + 1 + 1 + 1) 9 1 (.slice ia' (ids.length + 1) ic') (ids.length + 1) xs) (hg2 : (w1.alloc O).grownBy w2 (Value.slice ia ids.length ic).ownBlock) :
    NInv w (w2.setCell ⟨w.heap.size + 1 + 1 + 1, 0, none⟩ (.slice ia' (ids.length + 1) ic')) n (k + 1) (ids ++ [t]) zs ia' ic' := by
  obtain ⟨xs0, ho0⟩ := h.own
  have hrow : ∀ b, b < w.heap.size + 1 + 1 + 1 + 1 → some b ≠ (Value.slice ia ids.length ic).ownBlock := by
    intro b hb
    cases ia with
    | none => simp [Value.ownBlock]
    | some a =>
      have := ho0.lt a.block rfl
      simp [Value.ownBlock]
      omega
  have bk : ∀ {b : Nat} {cs : Array Value} {tt : TypeId}, Block wr b cs tt → b < w.heap.size + 1 + 1 + 1 + 1 → b ≠ w.heap.size + 1 → Block w2 b cs tt := fun hb hlt hne =>
    Block.grown (Block.alloc (hb.grown hg (by simpa using hne)) O) hg2 (hrow _ hlt)
  have hb3 := bk h.b3 (by omega) (by omega)
  have hbel : Below w.heap.size w w2 := by
    have h1 := h.bel.grown hg h.bel.size (fun j hj => by cases hj; omega)
    have h2 := h1.alloc (Nat.le_trans h.bel.size hg.size) O
    refine h2.grown hg2 h2.size fun j hj => ?_
    cases ia with
    | none => simp [Value.ownBlock] at hj
    | some a =>
      have := ho0.lt a.block rfl
      simp [Value.ownBlock] at hj
      omega
  refine ⟨hbel.setCell (by simp; omega) _, (bk h.b0 (by omega) (by omega)).other _ (by simp; omega), (bk h.b2 (by omega) (by omega)).other _ (by simp), ?_, ⟨xs, ?_⟩, ⟨_, ((hm.alloc O).kept hg2 (hrow _ (by omega))).setCell (by simp) _, hD.put t ht⟩⟩
  · have := hb3.set 0 (.slice ia' (ids.length + 1) ic')
    simpa using this
  · rw [List.length_append, List.length_singleton]
    refine ho.kept (w' := w2.setCell ⟨w.heap.size + 1 + 1 + 1, 0, none⟩ (.slice ia' (ids.length + 1) ic')) (row := some (w.heap.size + 1 + 1 + 1)) ⟨rfl, rfl, rfl, by simp, fun i _ hi => heap_setCell_other w2 _ i _ (fun e => hi (by rw [e]))⟩ ?_
    cases ia' with
    | none => exact .inl rfl
    | some a =>
      right
      intro e
      have := ho.lt a.block rfl
      have e' : a.block = w.heap.size + 1 + 1 + 1 := by simpa [Value.ownBlock] using e
      omega

theorem own_shape {W : World} {base : Nat} {v : Value} {m : Nat} {xs : List Value} (h : W.ownsRow base 9 1 v m xs) : ∃ a c, v = .slice a m c := by
  rcases h.2 with ⟨rfl, rfl⟩ | ⟨g, cap, cur, rfl, _⟩
  · exact ⟨_, _, rfl⟩
  · exact ⟨_, _, rfl⟩

end Go.Proofs.Qxb6618844a
