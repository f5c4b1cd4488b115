/-
  THE WALKS of decided (20) at a nil slice, and of ZZDecided (8).
-/
import Derived.Test.Qxb6619756aWalksD
set_option linter.unusedSimpArgs false
set_option linter.unusedVariables false
namespace Go.Proofs.Qxb6619756a
open Go.RowKit

set_option maxHeartbeats 1000000 in
theorem decided_nobv (s : Nat) (es : List Int) (w : World)
    (c2 : w.cell? ⟨s, 2, none⟩ = some (.slice none 0 0)) :
    Calls Try.prog 20 #[.pointer (some ⟨s, 0, none⟩)] w fun e w' => e = .returned (.tuple #[.int .u8 (Dec.dec (maj es) 0 0 []).1, .int .u8 (Dec.dec (maj es) 0 0 []).2]) ∧ w' = w := by
  go_enter Try.func20, Try.ntmps20
  go_wp2
  go_loop [2, 14] (fun f i => f = .int .u8 0 ∧ i = .int .i64 0) (fun _ i => 0)
  case atStart => exact ⟨rfl, rfl⟩
  case round =>
    obtain ⟨rfl, rfl⟩ := hrel
    go_wp2
    go_ret2
    exact ⟨rfl, rfl⟩

theorem maj_nil (k : Nat) : maj [] k = false := by simp [maj, holders]
theorem dec_nil (bs : List Int) : ∀ b : Nat, Dec.dec (maj []) b 0 bs = (0, 0) := by
  induction bs with
  | nil => intro b; rfl
  | cons v r ih =>
    intro b
    by_cases h : v = 0 ∨ v = 0
    · rw [Dec.dec_skip _ _ _ _ _ h]; exact ih _
    · rw [Dec.dec_no _ _ _ _ _ h (maj_nil b)]; exact ih _

set_option maxHeartbeats 2000000 in
theorem decided_noever (s bb m : Nat) (bs : List Int) (w : World) (hm : m ≤ 4097) (hlm : bs.length = m)
    (c1 : w.cell? ⟨s, 1, none⟩ = some (.slice none 0 0)) (c2 : w.cell? ⟨s, 2, none⟩ = some (.slice (some ⟨bb, 0, none⟩) m m)) (hB : Block w bb (rowK .u8 bs) 5) :
    Calls Try.prog 20 #[.pointer (some ⟨s, 0, none⟩)] w fun e w' => e = .returned (.tuple #[.int .u8 0, .int .u8 0]) ∧ w' = w := by
  have HM := hide hlm
  clear hlm
  go_enter Try.func20, Try.ntmps20
  go_wp2
  go_loop [2, 14] (fun f i => ∃ (k : Nat), i = .int .i64 k ∧ k ≤ m ∧ f = .int .u8 0) (fun _ i => m - (intOf i).toNat)
  case atStart => exact ⟨0, rfl, Nat.zero_le _, rfl⟩
  case round =>
    obtain ⟨k, rfl, hk, rfl⟩ := hrel
    by_cases hlt : k < m
    · have hkb : k < bs.length := by have := unhide HM; omega
      obtain ⟨v, hv⟩ : ∃ v, bs[k]? = some v := ⟨bs[k]'hkb, List.getElem?_eq_getElem _⟩
      have cv := (hB.cell k).trans (rowK_some _ bs k v hv)
      clear hv
      by_cases hv0 : v = 0
      · have h1 : (v == 0) = true := by simp [hv0]
        clear hv0
        go_wp2
        go_round
        case rel => exact ⟨k + 1, by go_num, by omega, rfl⟩
        case measure => simp [intOf]; omega
      · have h1 : (v == 0) = false := by simp [hv0]
        clear hv0
        go_wp2
        go_loop [6, 31] (fun h i => h = .int .i64 0 ∧ i = .int .i64 0) (fun _ i => 0)
        case atStart => exact ⟨rfl, rfl⟩
        case round =>
          obtain ⟨rfl, rfl⟩ := hrel
          go_wp2
          go_round
          case rel => exact ⟨k + 1, by go_num, by omega, rfl⟩
          case measure => simp [intOf]; omega
    · go_wp2
      go_ret2
      exact ⟨rfl, rfl⟩

/-- A slice that the call made, or nil. -/
def Own (w : World) (k : IntKind) (t : TypeId) (a : Option Addr) (zs : List Int) : Prop :=
  (a = none ∧ zs = []) ∨ ∃ b, a = some ⟨b, 0, none⟩ ∧ Block w b (rowK k zs) t
theorem Own.below {w w' : World} {k : IntKind} {t : TypeId} {a : Option Addr} {zs : List Int} (h : Own w k t a zs) (hb : Below w.heap.size w w') : Own w' k t a zs := by
  rcases h with h | ⟨b, e, hB⟩
  · exact .inl h
  · exact .inr ⟨b, e, hB.below hb hB.lt⟩

theorem decided_any (s : Nat) (ea ba : Option Addr) (es bs : List Int) (w : World) (hn : es.length ≤ 4097) (hm : bs.length ≤ 4097)
    (c1 : w.cell? ⟨s, 1, none⟩ = some (.slice ea es.length es.length)) (c2 : w.cell? ⟨s, 2, none⟩ = some (.slice ba bs.length bs.length)) (hE : Own w .u64 28 ea es) (hB : Own w .u8 5 ba bs) :
    Calls Try.prog 20 #[.pointer (some ⟨s, 0, none⟩)] w fun e w' => e = .returned (.tuple #[.int .u8 (Dec.dec (maj es) 0 0 bs).1, .int .u8 (Dec.dec (maj es) 0 0 bs).2]) ∧ w' = w := by
  rcases hB with ⟨rfl, rfl⟩ | ⟨bb, rfl, hB⟩
  · exact decided_nobv s es w c2
  · rcases hE with ⟨rfl, rfl⟩ | ⟨eb, rfl, hE⟩
    · rw [dec_nil bs 0]
      exact decided_noever s bb _ bs w hm rfl c1 c2 hB
    · exact decided_some s eb bb _ _ es bs w hn hm rfl rfl c1 c2 hE hB

set_option maxHeartbeats 1000000 in
theorem zzDecided_any (ea ba : Option Addr) (es bs : List Int) (w : World) (hn : es.length ≤ 4097) (hm : bs.length ≤ 4097) (hE : Own w .u64 28 ea es) (hB : Own w .u8 5 ba bs) :
    Calls Try.prog 8 #[.slice ea es.length es.length, .slice ba bs.length bs.length] w fun e w' => e = .returned (.tuple #[.int .u8 (Dec.dec (maj es) 0 0 bs).1, .int .u8 (Dec.dec (maj es) 0 0 bs).2]) ∧ Below w.heap.size w w' := by
  have HC : Hid (∀ (W : World), Below w.heap.size w W → W.cell? ⟨w.heap.size, 1, none⟩ = some (.slice ea es.length es.length) → W.cell? ⟨w.heap.size, 2, none⟩ = some (.slice ba bs.length bs.length) → _) := fun W hb c1 c2 =>
    decided_any w.heap.size ea ba es bs W hn hm c1 c2 (hE.below hb) (hB.below hb)
  generalize (Dec.dec (maj es) 0 0 bs).1 = d1 at *
  generalize (Dec.dec (maj es) 0 0 bs).2 = d2 at *
  clear hE hB
  go_enter Try.func8, Try.ntmps8
  go_wp2_with (go_at_call 20; refine (unhide HC _ ((Below.refl _ _).alloc (Nat.le_refl _) _) (by simp) (by simp)).mono ?_; rintro e w' ⟨rfl, hw⟩; have hw := hw.symm; subst hw)
  go_ret2
  exact ⟨rfl, (Below.refl _ _).alloc (Nat.le_refl _) _⟩

end Go.Proofs.Qxb6619756a
