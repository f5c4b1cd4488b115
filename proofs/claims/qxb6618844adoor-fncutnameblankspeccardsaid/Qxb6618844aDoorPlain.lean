/-
  THE PLAIN LAW of the three statements on cutName with isBlank: the longest leading run of blank runes of a list of bytes, over the model's own decoder. No Go text in sight.
-/
import Derived.Lib.SpaceUEq
set_option linter.unusedVariables false
namespace Go.Proofs.Qxb6618844aDoor.Blank
open Go Go.Lib

/-- isBlank, on a code point. -/
def blankR (r : Nat) : Bool := r == 35 || isSpaceR r
theorem blankR_iff (r : Nat) : blankR r = true ↔ r = 35 ∨ IsSpaceP r := by
  simp [blankR, isSpaceR_iff]

/-- The bytes of the longest leading run of blank runes, by at most f runes. -/
def bl : Nat → List UInt8 → Nat
  | 0, _ => 0
  | f + 1, l => if l = [] then 0 else if blankR (decodeL l).1 = true then (decodeL l).2 + bl f (l.drop (decodeL l).2) else 0
def blankLen (l : List UInt8) : Nat := bl l.length l

/-- A rune that is not U+FFFD is decoded off its own bytes alone. -/
theorem decodeN_own (n n' b0 b1 b2 b3 c1 c2 c3 : Nat) (h0 : b0 < 256) (h1 : b1 < 256) (h2 : b2 < 256) (h3 : b3 < 256) (hr : (decodeN n b0 b1 b2 b3).1 ≠ 65533) (hn : (decodeN n b0 b1 b2 b3).2 ≤ n')
    (e1 : 2 ≤ (decodeN n b0 b1 b2 b3).2 → c1 = b1) (e2 : 3 ≤ (decodeN n b0 b1 b2 b3).2 → c2 = b2) (e3 : 4 ≤ (decodeN n b0 b1 b2 b3).2 → c3 = b3) :
    decodeN n' b0 c1 c2 c3 = decodeN n b0 b1 b2 b3 := by
  by_cases a : b0 < 128
  · rw [decodeN_ascii n' b0 c1 c2 c3 a, decodeN_ascii n b0 b1 b2 b3 a]
  · by_cases w2 : b0 / 32 = 6 ∧ (1 < n ∧ b1 / 64 = 2)
    · have e : decodeN n b0 b1 b2 b3 = if b0 % 32 * 64 + b1 % 64 ≥ 128 then (b0 % 32 * 64 + b1 % 64, 2) else (65533, 1) := by
        unfold decodeN; rw [if_neg a, if_pos w2]
      by_cases g : b0 % 32 * 64 + b1 % 64 ≥ 128
      · rw [if_pos g] at e
        rw [e] at hn e1 ⊢
        obtain rfl := e1 (Nat.le_refl _)
        unfold decodeN; rw [if_neg a, if_pos ⟨w2.1, by simp only at hn; omega, w2.2.2⟩, if_pos g]
      · rw [if_neg g] at e; rw [e] at hr; exact absurd rfl hr
    · by_cases w3 : b0 / 16 = 14 ∧ (1 < n ∧ b1 / 64 = 2) ∧ (2 < n ∧ b2 / 64 = 2)
      · have e : decodeN n b0 b1 b2 b3 = if b0 % 16 * 4096 + b1 % 64 * 64 + b2 % 64 ≥ 2048 ∧ (b0 % 16 * 4096 + b1 % 64 * 64 + b2 % 64 < 55296 ∨ (57344 ≤ b0 % 16 * 4096 + b1 % 64 * 64 + b2 % 64 ∧ b0 % 16 * 4096 + b1 % 64 * 64 + b2 % 64 ≤ 1114111)) then (b0 % 16 * 4096 + b1 % 64 * 64 + b2 % 64, 3) else (65533, 1) := by
          unfold decodeN; rw [if_neg a, if_neg w2, if_pos w3]
        split at e
        · rename_i g
          rw [e] at hn e1 e2 ⊢
          obtain rfl := e1 (by simp)
          obtain rfl := e2 (by simp)
          unfold decodeN; rw [if_neg a, if_neg (by omega), if_pos ⟨w3.1, ⟨by simp only at hn; omega, w3.2.1.2⟩, by simp only at hn; omega, w3.2.2.2⟩, if_pos g]
        · rw [e] at hr; exact absurd rfl hr
      · by_cases w4 : b0 / 8 = 30 ∧ (1 < n ∧ b1 / 64 = 2) ∧ (2 < n ∧ b2 / 64 = 2) ∧ (3 < n ∧ b3 / 64 = 2)
        · have e : decodeN n b0 b1 b2 b3 = if b0 % 8 * 262144 + b1 % 64 * 4096 + b2 % 64 * 64 + b3 % 64 ≥ 65536 ∧ (b0 % 8 * 262144 + b1 % 64 * 4096 + b2 % 64 * 64 + b3 % 64 < 55296 ∨ (57344 ≤ b0 % 8 * 262144 + b1 % 64 * 4096 + b2 % 64 * 64 + b3 % 64 ∧ b0 % 8 * 262144 + b1 % 64 * 4096 + b2 % 64 * 64 + b3 % 64 ≤ 1114111)) then (b0 % 8 * 262144 + b1 % 64 * 4096 + b2 % 64 * 64 + b3 % 64, 4) else (65533, 1) := by
            unfold decodeN; rw [if_neg a, if_neg w2, if_neg w3, if_pos w4]
          split at e
          · rename_i g
            rw [e] at hn e1 e2 e3 ⊢
            obtain rfl := e1 (by simp)
            obtain rfl := e2 (by simp)
            obtain rfl := e3 (by simp)
            unfold decodeN; rw [if_neg a, if_neg (by omega), if_neg (by omega), if_pos ⟨w4.1, ⟨by simp only at hn; omega, w4.2.1.2⟩, ⟨by simp only at hn; omega, w4.2.2.1.2⟩, by simp only at hn; omega, w4.2.2.2.2⟩, if_pos g]
          · rw [e] at hr; exact absurd rfl hr
        · have e : decodeN n b0 b1 b2 b3 = (65533, 1) := by unfold decodeN; rw [if_neg a, if_neg w2, if_neg w3, if_neg w4]
          rw [e] at hr; exact absurd rfl hr

/-- It takes no more bytes than there are. -/
theorem decodeN_fits (n b0 b1 b2 b3 : Nat) (hn : 1 ≤ n) : (decodeN n b0 b1 b2 b3).2 ≤ n := by
  unfold decodeN
  repeat' split
  all_goals (simp only; omega)
theorem decodeN_w4 (n b0 b1 b2 b3 : Nat) : (decodeN n b0 b1 b2 b3).2 ≤ 4 := by
  unfold decodeN
  repeat' split
  all_goals (simp only; omega)
theorem decodeL_fits (l : List UInt8) (h : l ≠ []) : (decodeL l).2 ≤ l.length := by
  rw [decodeL_N]; exact decodeN_fits _ _ _ _ _ (List.length_pos_iff.2 h)

theorem getD_appL (a b : List UInt8) (k : Nat) (h : k < a.length) : (a ++ b).getD k 0 = a.getD k 0 := by
  simp [List.getD, List.getElem?_append_left h]

/-- A list that begins with the bytes of l's first rune (not U+FFFD) has that rune at its head. -/
theorem decodeL_head (l m : List UInt8) (hl : l ≠ []) (hr : (decodeL l).1 ≠ 65533) (hm : m.take (decodeL l).2 = l.take (decodeL l).2) : decodeL m = decodeL l := by
  have hw := decodeL_fits l hl
  have hw1 := decodeL_width l
  have hlen : (decodeL l).2 ≤ m.length := by
    have := congrArg List.length hm
    simp only [List.length_take] at this
    omega
  have hg : ∀ k, k < (decodeL l).2 → m.getD k 0 = l.getD k 0 := fun k hk => by
    rw [← getD_takeU m (decodeL l).2 k hk, hm, getD_takeU l (decodeL l).2 k hk]
  rw [decodeL_N m, decodeL_N l, hg 0 (by omega)]
  rw [decodeL_N l] at hr hlen hg
  have k0 := (l.getD 0 0).toNat_lt
  have k1 := (l.getD 1 0).toNat_lt
  have k2 := (l.getD 2 0).toNat_lt
  have k3 := (l.getD 3 0).toNat_lt
  exact decodeN_own _ _ _ _ _ _ _ _ _ (by omega) (by omega) (by omega) (by omega) hr hlen (fun h => by rw [hg 1 (by omega)]) (fun h => by rw [hg 2 (by omega)]) (fun h => by rw [hg 3 (by omega)])

theorem blank_not_err {r : Nat} (h : blankR r = true) : r ≠ 65533 := by
  rintro rfl
  simp [blankR, isSpaceR] at h

theorem bl_nil : ∀ f, bl f [] = 0
  | 0 => rfl
  | f + 1 => by simp [bl]
/-- Fuel enough is enough. -/
theorem bl_fuel : ∀ (f g : Nat) (l : List UInt8), l.length ≤ f → l.length ≤ g → bl f l = bl g l
  | 0, g, l, hf, _ => by
    obtain rfl : l = [] := List.length_eq_zero_iff.1 (by omega)
    rw [bl_nil, bl_nil]
  | f + 1, 0, l, _, hg => by
    obtain rfl : l = [] := List.length_eq_zero_iff.1 (by omega)
    rw [bl_nil, bl_nil]
  | f + 1, g + 1, l, hf, hg => by
    by_cases hl : l = []
    · subst hl; rw [bl_nil, bl_nil]
    · simp only [bl, if_neg hl]
      split
      · have h1 := decodeL_width l
        rw [bl_fuel f g (l.drop (decodeL l).2) (by rw [List.length_drop]; omega) (by rw [List.length_drop]; omega)]
      · rfl
theorem blankLen_nil : blankLen [] = 0 := rfl
/-- ONE RUNE: blank: it is taken, and on; -/
theorem blankLen_yes (l : List UInt8) (hl : l ≠ []) (hb : blankR (decodeL l).1 = true) : blankLen l = (decodeL l).2 + blankLen (l.drop (decodeL l).2) := by
  have hp : 0 < l.length := List.length_pos_iff.2 hl
  unfold blankLen
  obtain ⟨f, hf⟩ : ∃ f, l.length = f + 1 := ⟨l.length - 1, by omega⟩
  rw [hf]
  conv => lhs; unfold bl
  rw [if_neg hl, if_pos hb]
  have h1 := decodeL_width l
  rw [bl_fuel f (l.drop (decodeL l).2).length _ (by rw [List.length_drop]; omega) (Nat.le_refl _)]
/-- not blank: none. -/
theorem blankLen_no (l : List UInt8) (hb : blankR (decodeL l).1 = false) : blankLen l = 0 := by
  unfold blankLen
  cases h : l.length with
  | zero => rfl
  | succ f => simp [bl, hb]

theorem blankLen_le : ∀ (n : Nat) (l : List UInt8), l.length ≤ n → blankLen l ≤ l.length
  | 0, l, h => by
    obtain rfl : l = [] := List.length_eq_zero_iff.1 (by omega)
    simp [blankLen_nil]
  | n + 1, l, h => by
    by_cases hl : l = []
    · subst hl; simp [blankLen_nil]
    · by_cases hb : blankR (decodeL l).1 = true
      · rw [blankLen_yes l hl hb]
        have h1 := decodeL_width l
        have h2 := decodeL_fits l hl
        have h3 := blankLen_le n (l.drop (decodeL l).2) (by rw [List.length_drop]; omega)
        rw [List.length_drop] at h3
        omega
      · rw [blankLen_no l (by simpa using hb)]; omega
theorem blankLen_len (l : List UInt8) : blankLen l ≤ l.length := blankLen_le l.length l (Nat.le_refl _)

/-- ████ THE JOIN: the blank leading run of a, set before any b: its blanks are the leading run and b's own. -/
theorem blankLen_join (b : List UInt8) : ∀ (n : Nat) (a : List UInt8), a.length ≤ n → blankLen (a.take (blankLen a) ++ b) = blankLen a + blankLen b
  | 0, a, h => by
    obtain rfl : a = [] := List.length_eq_zero_iff.1 (by omega)
    simp [blankLen_nil]
  | n + 1, a, h => by
    by_cases hl : a = []
    · subst hl; simp [blankLen_nil]
    · by_cases hb : blankR (decodeL a).1 = true
      · have h1 := decodeL_width a
        have h2 := decodeL_fits a hl
        have hy := blankLen_yes a hl hb
        have ih := blankLen_join b n (a.drop (decodeL a).2) (by rw [List.length_drop]; omega)
        have htk : (a.take (blankLen a) ++ b).take (decodeL a).2 = a.take (decodeL a).2 := by
          rw [List.take_append_of_le_length (by rw [List.length_take]; omega), List.take_take, Nat.min_eq_left (by omega)]
        have hd := decodeL_head a (a.take (blankLen a) ++ b) hl (blank_not_err hb) htk
        have hne : a.take (blankLen a) ++ b ≠ [] := by
          intro e
          have := congrArg List.length e
          rw [List.length_append, List.length_take, List.length_nil] at this
          omega
        rw [blankLen_yes _ hne (by rw [hd]; exact hb), hd]
        have hdr : (a.take (blankLen a) ++ b).drop (decodeL a).2 = (a.drop (decodeL a).2).take (blankLen (a.drop (decodeL a).2)) ++ b := by
          rw [List.drop_append_of_le_length (by rw [List.length_take]; omega), List.drop_take]
          rw [hy, Nat.add_sub_cancel_left]
        rw [hdr, ih, hy]
        omega
      · have h0 := blankLen_no a (by simpa using hb)
        rw [h0]; simp
theorem join (a b : List UInt8) : blankLen (a.take (blankLen a) ++ b) = blankLen a + blankLen b := blankLen_join b a.length a (Nat.le_refl _)
/-- The blank leading run is blank throughout. -/
theorem pre (a : List UInt8) : blankLen (a.take (blankLen a)) = blankLen a := by
  have := join a []
  simpa [blankLen_nil] using this

/-- Behind the blank leading run stands no blank. -/
theorem rest_no : ∀ (n : Nat) (a : List UInt8), a.length ≤ n → a.drop (blankLen a) ≠ [] → blankR (decodeL (a.drop (blankLen a))).1 = false
  | 0, a, h, hne => by
    obtain rfl : a = [] := List.length_eq_zero_iff.1 (by omega)
    simp at hne
  | n + 1, a, h, hne => by
    by_cases hl : a = []
    · subst hl; simp at hne
    · by_cases hb : blankR (decodeL a).1 = true
      · have h1 := decodeL_width a
        have hy := blankLen_yes a hl hb
        have e : a.drop (blankLen a) = (a.drop (decodeL a).2).drop (blankLen (a.drop (decodeL a).2)) := by rw [List.drop_drop, hy]
        rw [e] at hne ⊢
        exact rest_no n _ (by rw [List.length_drop]; omega) hne
      · have hf : blankR (decodeL a).1 = false := by simpa using hb
        rw [blankLen_no a hf, List.drop_zero]; exact hf

/-! ### zzASCIIBlankPrefix, zzFirstAlnum -/
def common (c : UInt8) : Bool := c == 32 || c == 9 || c == 10 || c == 13 || c == 35
def asciiPre : List UInt8 → Nat
  | [] => 0
  | c :: t => if common c then asciiPre t + 1 else 0
def alnum (c : UInt8) : Bool := (48 ≤ c && c ≤ 57) || (65 ≤ c && c ≤ 90) || (97 ≤ c && c ≤ 122)
def firstAlnum : List UInt8 → Nat
  | [] => 0
  | c :: t => if alnum c then 0 else firstAlnum t + 1

theorem asciiPre_le : ∀ l : List UInt8, asciiPre l ≤ blankLen l
  | [] => by simp [asciiPre]
  | c :: t => by
    unfold asciiPre
    split
    · rename_i hc
      have hd : decodeL (c :: t) = (c.toNat, 1) := by
        rw [decodeL_N]
        refine decodeN_ascii _ _ _ _ _ ?_
        rw [List.getD_cons_zero]
        simp only [common, Bool.or_eq_true, beq_iff_eq] at hc
        rcases hc with (((rfl | rfl) | rfl) | rfl) | rfl <;> decide
      have hb : blankR (decodeL (c :: t)).1 = true := by
        rw [hd]
        simp only [common, Bool.or_eq_true, beq_iff_eq] at hc
        rcases hc with (((rfl | rfl) | rfl) | rfl) | rfl <;> decide
      rw [blankLen_yes _ (by simp) hb, hd]
      have := asciiPre_le t
      simp
      omega
    · omega

theorem blank_bytes (l : List UInt8) (hl : l ≠ []) (hb : blankR (decodeL l).1 = true) : ∀ k, k < (decodeL l).2 → alnum (l.getD k 0) = false := by
  have hp : 0 < l.length := List.length_pos_iff.2 hl
  have k0 := (l.getD 0 0).toNat_lt
  have k1 := (l.getD 1 0).toNat_lt
  have k2 := (l.getD 2 0).toNat_lt
  have al : ∀ c : UInt8, (c.toNat < 48 ∨ 127 < c.toNat) → alnum c = false := fun c hc => by
    simp only [alnum, UInt8.le_iff_toNat_le, Bool.or_eq_false_iff, Bool.and_eq_false_iff, decide_eq_false_iff_not]
    simp
    omega
  rw [decodeL_N] at hb ⊢
  rcases (blankR_iff _).1 hb with h | h
  · rcases decodeN_cases l.length (l.getD 0 0).toNat (l.getD 1 0).toNat (l.getD 2 0).toNat (l.getD 3 0).toNat with ⟨c, e⟩ | ⟨c1, c2, c3, cv, e⟩ | ⟨c1, c2, c3, c4, cv, e⟩ | ⟨c, e⟩ | e
    · rw [e] at h ⊢
      intro k hk
      obtain rfl : k = 0 := by simp only at hk; omega
      exact al _ (by simp only at h; omega)
    · rw [e] at h; simp only at h; omega
    · rw [e] at h; simp only at h; omega
    · omega
    · rw [e] at h; simp only at h; omega
  · rcases space_bytes l.length _ _ _ (l.getD 3 0).toNat (by omega) (by omega) (by omega) h with ⟨w, c⟩ | ⟨w, n2, c0, c1⟩ | ⟨w, n3, c⟩
    · rw [w]; intro k hk
      obtain rfl : k = 0 := by omega
      exact al _ (by omega)
    · rw [w]; intro k hk
      rcases (by omega : k = 0 ∨ k = 1) with rfl | rfl
      · exact al _ (by omega)
      · exact al _ (by omega)
    · rw [w]; intro k hk
      rcases (by omega : k = 0 ∨ k = 1 ∨ k = 2) with rfl | rfl | rfl
      · exact al _ (by omega)
      · exact al _ (by omega)
      · exact al _ (by omega)

theorem firstAlnum_skip : ∀ (w : Nat) (l : List UInt8), w ≤ l.length → (∀ k, k < w → alnum (l.getD k 0) = false) → firstAlnum l = w + firstAlnum (l.drop w)
  | 0, l, _, _ => by simp
  | w + 1, [], h, _ => by simp at h
  | w + 1, c :: t, h, ha => by
    have h0 := ha 0 (by omega)
    simp at h0
    have := firstAlnum_skip w t (by simpa using h) (fun k hk => by simpa using ha (k + 1) (by omega))
    simp only [firstAlnum, h0, List.drop_succ_cons]
    rw [this]
    simp
    omega

theorem blankLen_alnum : ∀ (n : Nat) (l : List UInt8), l.length ≤ n → blankLen l ≤ firstAlnum l
  | 0, l, h => by
    obtain rfl : l = [] := List.length_eq_zero_iff.1 (by omega)
    simp [blankLen_nil]
  | n + 1, l, h => by
    by_cases hl : l = []
    · subst hl; simp [blankLen_nil]
    · by_cases hb : blankR (decodeL l).1 = true
      · have h1 := decodeL_width l
        have h2 := decodeL_fits l hl
        rw [blankLen_yes l hl hb, firstAlnum_skip _ l h2 (blank_bytes l hl hb)]
        have := blankLen_alnum n (l.drop (decodeL l).2) (by rw [List.length_drop]; omega)
        omega
      · rw [blankLen_no l (by simpa using hb)]; omega
theorem le_alnum (l : List UInt8) : blankLen l ≤ firstAlnum l := blankLen_alnum l.length l (Nat.le_refl _)

/-! ### string(r) -/
/-- The code point that string(r) holds. -/
def cp (r : Int) : Nat := if Utf8.valid r then r.toNat else 65533
theorem cp_range (r : Int) : cp r < 55296 ∨ (57344 ≤ cp r ∧ cp r ≤ 1114111) := by
  unfold cp
  split
  · rename_i h
    simp [Utf8.valid] at h
    omega
  · omega
theorem enc_one (r : Int) (h : cp r < 128) : (Utf8.encode r).data.toList = [UInt8.ofNat (cp r)] := by
  unfold cp at h ⊢; unfold Utf8.encode Utf8.runeError; simp only; rw [if_pos h]
theorem enc_two (r : Int) (h0 : ¬ cp r < 128) (h : cp r < 2048) : (Utf8.encode r).data.toList = [UInt8.ofNat (192 + cp r / 64), UInt8.ofNat (128 + cp r % 64)] := by
  unfold cp at h h0 ⊢; unfold Utf8.encode Utf8.runeError; simp only; rw [if_neg h0, if_pos h]
theorem enc_three (r : Int) (h0 : ¬ cp r < 128) (h1 : ¬ cp r < 2048) (h : cp r < 65536) : (Utf8.encode r).data.toList = [UInt8.ofNat (224 + cp r / 4096), UInt8.ofNat (128 + cp r / 64 % 64), UInt8.ofNat (128 + cp r % 64)] := by
  unfold cp at h h0 h1 ⊢; unfold Utf8.encode Utf8.runeError; simp only; rw [if_neg h0, if_neg h1, if_pos h]
theorem enc_four (r : Int) (h0 : ¬ cp r < 128) (h1 : ¬ cp r < 2048) (h : ¬ cp r < 65536) : (Utf8.encode r).data.toList = [UInt8.ofNat (240 + cp r / 262144), UInt8.ofNat (128 + cp r / 4096 % 64), UInt8.ofNat (128 + cp r / 64 % 64), UInt8.ofNat (128 + cp r % 64)] := by
  unfold cp at h h0 h1 ⊢; unfold Utf8.encode Utf8.runeError; simp only; rw [if_neg h0, if_neg h1, if_neg h]
theorem toNat_of (n : Nat) (h : n < 256) : (UInt8.ofNat n).toNat = n := by
  rw [UInt8.toNat_ofNat']; exact Nat.mod_eq_of_lt h
theorem enc_decode (r : Int) (t : List UInt8) : decodeL ((Utf8.encode r).data.toList ++ t) = (cp r, (Utf8.encode r).data.toList.length) := by
  have hc := cp_range r
  rw [decodeL_N]
  by_cases h1 : cp r < 128
  · rw [enc_one r h1]
    generalize cp r = c at *
    simp only [List.cons_append, List.nil_append, List.getD_cons_zero]
    rw [toNat_of c (by omega), decodeN_ascii _ _ _ _ _ h1]; rfl
  · by_cases h2 : cp r < 2048
    · rw [enc_two r h1 h2]
      generalize cp r = c at *
      simp only [List.cons_append, List.nil_append, List.getD_cons_zero, List.getD_cons_succ, List.length_cons]
      rw [toNat_of (192 + c / 64) (by omega), toNat_of (128 + c % 64) (by omega)]
      unfold decodeN
      rw [if_neg (by omega), if_pos (by omega), if_pos (by omega)]
      apply Prod.ext <;> simp only [List.length_nil] <;> omega
    · by_cases h3 : cp r < 65536
      · rw [enc_three r h1 h2 h3]
        generalize cp r = c at *
        simp only [List.cons_append, List.nil_append, List.getD_cons_zero, List.getD_cons_succ, List.length_cons]
        rw [toNat_of (224 + c / 4096) (by omega), toNat_of (128 + c / 64 % 64) (by omega), toNat_of (128 + c % 64) (by omega)]
        unfold decodeN
        rw [if_neg (by omega), if_neg (by omega), if_pos (by omega), if_pos (by omega)]
        apply Prod.ext <;> simp only [List.length_nil] <;> omega
      · rw [enc_four r h1 h2 h3]
        generalize cp r = c at *
        simp only [List.cons_append, List.nil_append, List.getD_cons_zero, List.getD_cons_succ, List.length_cons]
        rw [toNat_of (240 + c / 262144) (by omega), toNat_of (128 + c / 4096 % 64) (by omega), toNat_of (128 + c / 64 % 64) (by omega), toNat_of (128 + c % 64) (by omega)]
        unfold decodeN
        rw [if_neg (by omega), if_neg (by omega), if_neg (by omega), if_pos (by omega), if_pos (by omega)]
        apply Prod.ext <;> simp only [List.length_nil] <;> omega
theorem enc_ne (r : Int) (t : List UInt8) : (Utf8.encode r).data.toList ++ t ≠ [] := by
  intro e
  have h1 := decodeL_width ((Utf8.encode r).data.toList ++ t)
  rw [enc_decode] at h1
  have h2 := congrArg List.length e
  rw [List.length_append, List.length_nil] at h2
  have h3 : 1 ≤ (Utf8.encode r).data.toList.length := h1
  omega

/-- isBlank, on an int32. -/
def blankZ (r : Int) : Bool := r == 35 || (if 0 ≤ r then isSpaceR r.toNat else false)
theorem blankZ_nat (z : Nat) : blankZ (z : Int) = blankR z := by
  unfold blankZ blankR
  rw [if_pos (by omega), Int.toNat_natCast]
  congr 1
  rw [Bool.eq_iff_iff]; simp; omega
theorem blankZ_cp (r : Int) : blankZ r = blankR (cp r) := by
  unfold cp
  split
  · rename_i h
    simp [Utf8.valid] at h
    obtain ⟨n, rfl⟩ := Int.eq_ofNat_of_zero_le (show 0 ≤ r by omega)
    rw [blankZ_nat, Int.toNat_natCast]
  · rename_i h
    simp [Utf8.valid] at h
    have e : blankR 65533 = false := by decide
    rw [e]
    unfold blankZ
    by_cases h0 : 0 ≤ r
    · rw [if_pos h0]
      have : isSpaceR r.toNat = false := isSpaceR_false (by unfold IsSpaceP; omega)
      rw [this]; simp; omega
    · rw [if_neg h0]; simp; omega

/-- ████ PREPEND: one rune in front, blank: it is taken; -/
theorem prepend_yes (r : Int) (t : List UInt8) (h : blankZ r = true) : blankLen ((Utf8.encode r).data.toList ++ t) = (Utf8.encode r).data.toList.length + blankLen t := by
  have hd := enc_decode r t
  rw [blankLen_yes _ (enc_ne r t) (by rw [hd, ← blankZ_cp]; exact h), hd]
  simp
/-- not blank: nothing is. -/
theorem prepend_no (r : Int) (t : List UInt8) (h : blankZ r = false) : blankLen ((Utf8.encode r).data.toList ++ t) = 0 :=
  blankLen_no _ (by rw [enc_decode, ← blankZ_cp]; exact h)

end Go.Proofs.Qxb6618844aDoor.Blank
