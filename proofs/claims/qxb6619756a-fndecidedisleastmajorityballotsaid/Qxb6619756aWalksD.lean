/-
  THE WALK of decided (20) and of ZZDecided (8).
-/
import Derived.Test.Qxb6619756aCells
import Derived.Test.Qxb6619756aPlain
set_option linter.unusedSimpArgs false
set_option linter.unusedVariables false
namespace Go.Proofs.Qxb6619756a
open Go.RowKit

/-- Has mask e bit k? In the walk's own words. -/
def hasBit (e : Int) (k : Nat) : Bool := bits BinOp.and .u64 e (IntKind.u64.wrap (2 ^ min k 64)) != 0
def holders (es : List Int) (k : Nat) : Nat := (es.filter fun e => hasBit e k).length
def maj (es : List Int) (k : Nat) : Bool := decide (es.length < 2 * holders es k)
theorem holders_snoc (es : List Int) (j k : Nat) (e : Int) (h : es[j]? = some e) : holders (es.take (j + 1)) k = holders (es.take j) k + if hasBit e k = true then 1 else 0 := by
  unfold holders
  rw [List.take_add_one, h, List.filter_append]
  simp only [Option.toList_some, List.filter_cons, List.filter_nil, List.length_append]
  split <;> simp
theorem holders_le (es : List Int) (j k : Nat) : holders (es.take j) k ≤ j := by
  have h1 := List.length_filter_le (fun e => hasBit e k) (es.take j)
  unfold holders
  rw [List.length_take] at h1
  omega

theorem ret_u8 {a b c d : Int} (h1 : a = c) (h2 : b = d) : Ending.returned (.tuple #[.int .u8 a, .int .u8 b]) = .returned (.tuple #[.int .u8 c, .int .u8 d]) := by rw [h1, h2]

set_option maxHeartbeats 4000000 in
theorem decided_some (s eb bb n m : Nat) (es bs : List Int) (w : World) (hn : n ≤ 4097) (hm : m ≤ 4097) (hln : es.length = n) (hlm : bs.length = m)
    (c1 : w.cell? ⟨s, 1, none⟩ = some (.slice (some ⟨eb, 0, none⟩) n n)) (c2 : w.cell? ⟨s, 2, none⟩ = some (.slice (some ⟨bb, 0, none⟩) m m)) (hE : Block w eb (rowK .u64 es) 28) (hB : Block w bb (rowK .u8 bs) 5) :
    Calls Try.prog 20 #[.pointer (some ⟨s, 0, none⟩)] w fun e w' => e = .returned (.tuple #[.int .u8 (Dec.dec (maj es) 0 0 bs).1, .int .u8 (Dec.dec (maj es) 0 0 bs).2]) ∧ w' = w := by
  have HN := hide hln
  have HM := hide hlm
  clear hln hlm
  generalize hD : Dec.dec (maj es) 0 0 bs = D
  have HD := hide hD
  clear hD
  go_enter Try.func20, Try.ntmps20
  go_wp2
  go_loop [2, 14] (fun f i => ∃ (k : Nat) (x : Int), i = .int .i64 k ∧ k ≤ m ∧ f = .int .u8 x ∧ Hid (Dec.dec (maj es) k x (bs.drop k) = D)) (fun _ i => m - (intOf i).toNat)
  case atStart => exact ⟨0, 0, rfl, Nat.zero_le _, rfl, by simpa [Hid] using unhide HD⟩
  case round =>
    obtain ⟨k, x, rfl, hk, rfl, hd⟩ := hrel
    by_cases hlt : k < m
    · have hkb : k < bs.length := by have := unhide HM; omega
      obtain ⟨v, hv⟩ : ∃ v, bs[k]? = some v := ⟨bs[k]'hkb, List.getElem?_eq_getElem _⟩
      have cv := (hB.cell k).trans (rowK_some _ bs k v hv)
      have hdr : bs.drop k = v :: bs.drop (k + 1) := by
        rw [List.drop_eq_getElem_cons hkb]
        congr 1
        exact (List.getElem?_eq_some_iff.1 hv).2
      have hd1 := unhide hd
      rw [hdr] at hd1
      clear hdr hv hd
      by_cases hz : v = 0 ∨ v = x
      · rw [Dec.dec_skip _ _ _ _ _ hz] at hd1
        have HD1 := hide hd1
        clear hd1
        by_cases hv0 : v = 0
        · have h1 : (v == 0) = true := by simp [hv0]
          clear hz hv0
          go_wp2
          go_round
          case rel => exact ⟨k + 1, x, by go_num, by omega, rfl, HD1⟩
          case measure => simp [intOf]; omega
        · have h1 : (v == 0) = false := by simp [hv0]
          have h2 : (v == x) = true := by simp; omega
          clear hz hv0
          go_wp2
          go_round
          case rel => exact ⟨k + 1, x, by go_num, by omega, rfl, HD1⟩
          case measure => simp [intOf]; omega
      · have h1 : (v == 0) = false := by simp; omega
        have h2 : (v == x) = false := by simp; omega
        have HZ := hide hz
        have HD1 := hide hd1
        clear hz hd1
        go_wp2
        go_loop [6, 31] (fun h i => ∃ (j : Nat) (y : Nat), i = .int .i64 j ∧ j ≤ n ∧ h = .int .i64 y ∧ y ≤ j ∧ Hid (y = holders (es.take j) k)) (fun _ i => n - (intOf i).toNat)
        case atStart => exact ⟨0, 0, rfl, Nat.zero_le _, rfl, by omega, by simp [Hid, holders]⟩
        case round =>
          obtain ⟨j, y, rfl, hj, rfl, hyj, hy⟩ := hrel
          by_cases hjl : j < n
          · have hjb : j < es.length := by have := unhide HN; omega
            obtain ⟨e, he⟩ : ∃ e, es[j]? = some e := ⟨es[j]'hjb, List.getElem?_eq_getElem _⟩
            have ce := (hE.cell j).trans (rowK_some _ es j e he)
            have HS := hide (holders_snoc es j k e he)
            have hl1 := holders_le es (j + 1) k
            clear he
            cases hb : hasBit e k
            · have hb' : (bits BinOp.and .u64 e (IntKind.u64.wrap (2 ^ min k 64)) != 0) = false := hb
              have HB := hide hb
              clear hb
              go_wp2
              go_round
              case rel => exact ⟨j + 1, y, by go_num, by omega, rfl, by omega, by rw [Hid, unhide HS, unhide HB, unhide hy]; simp⟩
              case measure => simp [intOf]; omega
            · have hb' : (bits BinOp.and .u64 e (IntKind.u64.wrap (2 ^ min k 64)) != 0) = true := hb
              have HB := hide hb
              clear hb
              go_wp2
              go_round
              case rel => exact ⟨j + 1, y + 1, by go_num, by omega, by go_num, by omega, by rw [Hid, unhide HS, unhide HB, unhide hy]; simp⟩
              case measure => simp [intOf]; omega
          · have hmj : maj es k = decide (n < 2 * y) := by
              have h := unhide hy
              rw [List.take_of_length_le (by have := unhide HN; omega)] at h
              unfold maj
              rw [h, unhide HN]
            have HMJ := hide hmj
            clear hmj
            by_cases hgt : n < 2 * y
            · have HT : Hid (maj es k = true) := by rw [Hid, unhide HMJ]; simpa using hgt
              have hgt' : ¬ (2 * (y : Int) ≤ (n : Int)) := by omega
              by_cases hx : x = 0
              · have h3 : (x != 0) = false := by simp [hx]
                have HX := hide hx
                clear hx
                go_wp2
                go_round
                case rel =>
                  refine ⟨k + 1, v, by go_num, by omega, rfl, ?_⟩
                  have h := unhide HD1
                  have hz := unhide HZ
                  rw [unhide HX] at h hz
                  rw [Dec.dec_first _ _ _ _ hz (unhide HT)] at h
                  exact h
                case measure => simp [intOf]; omega
              · have h3 : (x != 0) = true := by simp [hx]
                have HX := hide hx
                clear hx
                go_wp2
                go_ret2
                have h := unhide HD1
                rw [Dec.dec_second _ _ _ _ _ (unhide HZ) (unhide HT) (unhide HX)] at h
                refine ⟨?_, rfl⟩
                rw [← h]
                rfl
            · have HT : Hid (maj es k = false) := by rw [Hid, unhide HMJ]; simpa using hgt
              have hgt' : 2 * (y : Int) ≤ (n : Int) := by omega
              go_wp2
              go_round
              case rel =>
                refine ⟨k + 1, x, by go_num, by omega, rfl, ?_⟩
                have h := unhide HD1
                rw [Dec.dec_no _ _ _ _ _ (unhide HZ) (unhide HT)] at h
                exact h
              case measure => simp [intOf]; omega
    · have h := unhide hd
      rw [List.drop_of_length_le (by have := unhide HM; omega)] at h
      have H := hide h
      clear h
      go_wp2
      go_ret2
      refine ⟨?_, rfl⟩
      rw [← unhide H]
      rfl

end Go.Proofs.Qxb6619756a
