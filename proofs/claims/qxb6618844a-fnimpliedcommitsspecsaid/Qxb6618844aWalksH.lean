/-
  THE WALKS over the argument's operations: zzOpsTooBig (7), zzAnyEnds (13).
-/
import Derived.Test.Qxb6618844aWalksG
set_option linter.unusedSimpArgs false
set_option linter.unusedVariables false
namespace Go.Proofs.Qxb6618844a
open Go.RowKit

/-- Operation k of a row of operations at ⟨b, off⟩. -/
def OpAt (w : World) (b off k : Nat) (o : OpV) : Prop :=
  w.cell? ⟨b, off + k * 5, none⟩ = some (.int .i64 o.kind) ∧ w.cell? ⟨b, off + k * 5 + 1, none⟩ = some (.string o.txn) ∧ w.cell? ⟨b, off + k * 5 + 2, none⟩ = some (.int .i64 o.site) ∧
    w.cell? ⟨b, off + k * 5 + 3, none⟩ = some (.bool o.sg) ∧ w.cell? ⟨b, off + k * 5 + 4, none⟩ = some (.slice o.ia o.il o.ic)
/-- WHAT THE WALK IS TOLD OF A SLICE OF OPERATIONS THAT CAME IN. -/
def ArgOps (w : World) (a : Option Addr) (n : Nat) (os : List OpV) : Prop :=
  os.length = n ∧ n ≤ 9223372036854775807 ∧ (n = 0 ∨ ∃ b off, a = some ⟨b, off, none⟩ ∧ ∀ k o, os[k]? = some o → ItemsOK w o ∧ OpAt w b off k o)

theorem OpAt.below {w w' : World} {b off k : Nat} {o : OpV} (h : OpAt w b off k o) (hb : Below w.heap.size w w') : OpAt w' b off k o := by
  have lt := lt_of_cell h.1
  obtain ⟨h0, h1, h2, h3, h4⟩ := h
  exact ⟨(hb.cell lt).trans h0, (hb.cell lt).trans h1, (hb.cell lt).trans h2, (hb.cell lt).trans h3, (hb.cell lt).trans h4⟩
theorem ArgOps.below {w w' : World} {a : Option Addr} {n : Nat} {os : List OpV} (h : ArgOps w a n os) (hb : Below w.heap.size w w') : ArgOps w' a n os := by
  obtain ⟨h1, h2, h3⟩ := h
  refine ⟨h1, h2, ?_⟩
  rcases h3 with h3 | ⟨b, off, he, hall⟩
  · exact .inl h3
  · exact .inr ⟨b, off, he, fun k o ho => ⟨(hall k o ho).1.below hb, (hall k o ho).2.below hb⟩⟩

/-- Some bool. -/
def RetBool (e : Ending) : Prop := ∃ m : Bool, e = .returned (.bool m)

set_option maxHeartbeats 1000000 in
theorem tooBig_any (a : Option Addr) (n c : Nat) (os : List OpV) (sum : Int) (w : World) (ha : ArgOps w a n os) :
    Calls Try.prog 7 #[.slice a n c, .int .i64 sum] w fun e w' => RetBool e ∧ Below w.heap.size w w' := by
  obtain ⟨hl, hn, h3⟩ := ha
  rcases h3 with h3 | ⟨b, off, rfl, hall⟩
  · have hz' : (n : Int) ≤ 0 := by omega
    clear h3 hl
    go_enter Try.func7, Try.ntmps7
    go_wp2
    go_loop [1, 5] (fun s j => s = .int .i64 sum ∧ j = .int .i64 0) (fun _ j => 0)
    case atStart => exact ⟨rfl, rfl⟩
    case round =>
      obtain ⟨rfl, rfl⟩ := hrel
      go_wp2
      go_ret
      exact ⟨⟨_, rfl⟩, Below.refl _ _⟩
  · have HA := hide hall
    have HL := hide hl
    clear hall hl
    go_enter Try.func7, Try.ntmps7
    go_wp2
    go_loopw [1, 5] (fun s j wr => ∃ (m : Int) (k : Nat), s = .int .i64 m ∧ j = .int .i64 k ∧ k ≤ n ∧ Below w.heap.size w wr) (fun _ j _ => n - (intOf j).toNat)
    case atStart => exact ⟨_, 0, rfl, rfl, Nat.zero_le _, Below.refl _ _⟩
    case round =>
      obtain ⟨m, k, rfl, rfl, hk, hb⟩ := hrel
      by_cases hlt : k < n
      · obtain ⟨o, ho⟩ : ∃ o, os[k]? = some o := ⟨os[k]'(by have := unhide HL; omega), List.getElem?_eq_getElem _⟩
        obtain ⟨hi, hop⟩ := unhide HA k o ho
        have cA := addOp_any m o wr (hi.below hb)
        obtain ⟨c0, c1, c2, c3, c4⟩ := hop.below hb
        unfold OpV.val at cA
        clear HA ho hi hop
        by_cases hm : m ≤ 1048576
        · go_wp2_with (go_at_call 8; refine cA.mono ?_; rintro e w' ⟨⟨m', rfl⟩, hb'⟩)
          go_roundw
          case rel => exact ⟨_, k + 1, rfl, by go_num, by omega, hb.trans (hb'.mono hb.size)⟩
          case measure => simp [intOf]; omega
        · go_wp2
          go_ret
          exact ⟨⟨_, rfl⟩, hb⟩
      · clear HA
        go_wp2
        go_ret
        exact ⟨⟨_, rfl⟩, hb⟩

set_option maxHeartbeats 1000000 in
theorem anyEnds_any (a : Option Addr) (n c : Nat) (os : List OpV) (w : World) (ha : ArgOps w a n os) :
    Calls Try.prog 13 #[.slice a n c] w fun e w' => e = .returned (.bool (os.any fun o => endsZ o.kind)) ∧ w' = w := by
  obtain ⟨hl, hn, h3⟩ := ha
  rcases h3 with h3 | ⟨b, off, rfl, hall⟩
  · have hz' : (n : Int) ≤ 0 := by omega
    obtain rfl : os = [] := List.length_eq_zero_iff.1 (by omega)
    clear h3 hl
    go_enter Try.func13, Try.ntmps13
    go_wp2
    go_loop [3] (fun j => j = .int .i64 0) (fun j => 0)
    case atStart => exact rfl
    case round =>
      obtain rfl := hrel
      go_wp2
      go_ret
      exact ⟨rfl, rfl⟩
  · have HA := hide hall
    have HL := hide hl
    clear hall hl
    go_enter Try.func13, Try.ntmps13
    go_wp2
    go_loop [3] (fun j => ∃ (k : Nat), j = .int .i64 k ∧ k ≤ n ∧ Hid ((os.take k).any (fun o => endsZ o.kind) = false)) (fun j => n - (intOf j).toNat)
    case atStart => exact ⟨0, rfl, Nat.zero_le _, by simp [Hid]⟩
    case round =>
      obtain ⟨k, rfl, hk, hno⟩ := hrel
      by_cases hlt : k < n
      · have hkl : k < os.length := by have := unhide HL; omega
        obtain ⟨o, ho⟩ : ∃ o, os[k]? = some o := ⟨os[k]'hkl, List.getElem?_eq_getElem _⟩
        obtain ⟨hi, hop⟩ := unhide HA k o ho
        obtain ⟨c0, c1, c2, c3, c4⟩ := hop
        have hs : Hid ((os.take (k + 1)).any (fun o => endsZ o.kind) = endsZ o.kind) := by
          unfold Hid
          rw [List.take_add_one, ho, List.any_append, unhide hno]
          simp
        have hs' : Hid (endsZ o.kind = true → os.any (fun o => endsZ o.kind) = true) := fun h => by
          rw [List.any_eq_true]
          exact ⟨o, List.mem_of_getElem? ho, h⟩
        have cE := ends_any o.kind w
        clear HA ho hi c1 c2 c3 c4
        cases he : endsZ o.kind
        · rw [he] at cE
          have HE := hide he
          clear he
          go_wp2_with (go_at_call 12; refine cE.mono ?_; rintro e w' ⟨rfl, hw⟩; have hw := hw.symm; subst hw)
          go_round
          case rel => exact ⟨k + 1, by go_num, by omega, by rw [Hid, unhide hs, unhide HE]⟩
          case measure => simp [intOf]; omega
        · rw [he] at cE
          have HE := hide (unhide hs' he)
          clear he
          go_wp2_with (go_at_call 12; refine cE.mono ?_; rintro e w' ⟨rfl, hw⟩; have hw := hw.symm; subst hw)
          go_ret
          exact ⟨by rw [unhide HE]; rfl, rfl⟩
      · clear HA
        go_wp2
        go_ret
        have h := unhide hno
        rw [List.take_of_length_le (by have := unhide HL; omega)] at h
        exact ⟨by rw [h]; rfl, rfl⟩

end Go.Proofs.Qxb6618844a
