/-
  THE WALKS of the small functions beside cutName: zzCommonBlank (13), the bounds on the lengths (6, 10, 12), zzASCIIBlankPrefix (9), zzFirstAlnum (11).
-/
import Derived.Test.Qxb6618844aDoorRows
import Derived.Test.Qxb6618844aDoorPlain
import Derived.WalkKit
import Derived.WalkSpells
import Derived.WalkLawsBesides
set_option linter.unusedSimpArgs false
set_option linter.unusedVariables false
namespace Go.Proofs.Qxb6618844aDoor
open Go.RowKit

theorem hide {p : Prop} (h : p) : Hid p := h
theorem unhide {p : Prop} (h : Hid p) : p := h

def commonZ (c : Int) : Bool := c == 32 || c == 9 || c == 10 || c == 13 || c == 35
theorem commonZ_byte (b : UInt8) : commonZ (b.toNat : Int) = Blank.common b := by
  have e : ∀ k : UInt8, ((b.toNat : Int) == (k.toNat : Int)) = (b == k) := fun k => by
    rw [Bool.eq_iff_iff, beq_iff_eq, beq_iff_eq]
    exact ⟨fun h => UInt8.toNat_inj.1 (by omega), fun h => by rw [h]⟩
  have e1 := e 32; have e2 := e 9; have e3 := e 10; have e4 := e 13; have e5 := e 35
  simp only [commonZ, Blank.common]
  rw [← e1, ← e2, ← e3, ← e4, ← e5]
  rfl

set_option maxHeartbeats 400000 in
theorem common_any (c : Int) (w : World) :
    Calls Tryd.prog 13 #[.int .i32 c] w fun e w' => e = .returned (.bool (commonZ c)) ∧ w' = w := by
  go_enter Tryd.func13, Tryd.ntmps13
  go_wp2
  all_goals
    go_ret
    refine ⟨?_, rfl⟩
    simp [commonZ, *]

set_option maxHeartbeats 400000 in
theorem bytes6 (s : ByteArray) (w : World) (hs : s.size ≤ maxLen) :
    Calls Tryd.prog 6 #[.string s] w fun e w' => e = .returned (.bool (decide (s.size ≤ 1048576))) ∧ w' = w := by
  unfold maxLen at hs
  by_cases h : s.size ≤ 1048576
  · have h1 : ¬ (1048576 : Int) < (s.size : Int) := by omega
    go_enter Tryd.func6, Tryd.ntmps6
    go_wp2
    go_ret
    exact ⟨by simp [h], rfl⟩
  · have h1 : (1048576 : Int) < (s.size : Int) := by omega
    go_enter Tryd.func6, Tryd.ntmps6
    go_wp2
    go_ret
    exact ⟨by simp [h], rfl⟩

set_option maxHeartbeats 400000 in
theorem bytes12 (r : Int) (s : ByteArray) (w : World) (hs : s.size ≤ maxLen) :
    Calls Tryd.prog 12 #[.int .i32 r, .string s] w fun e w' => e = .returned (.bool (decide (s.size ≤ 1048576))) ∧ w' = w := by
  unfold maxLen at hs
  by_cases h : s.size ≤ 1048576
  · have h1 : ¬ (1048576 : Int) < (s.size : Int) := by omega
    go_enter Tryd.func12, Tryd.ntmps12
    go_wp2
    go_ret
    exact ⟨by simp [h], rfl⟩
  · have h1 : (1048576 : Int) < (s.size : Int) := by omega
    go_enter Tryd.func12, Tryd.ntmps12
    go_wp2
    go_ret
    exact ⟨by simp [h], rfl⟩

set_option maxHeartbeats 400000 in
theorem bytes10 (a b : ByteArray) (w : World) (ha : a.size ≤ maxLen) (hb : b.size ≤ maxLen) :
    Calls Tryd.prog 10 #[.string a, .string b] w fun e w' => e = .returned (.bool (decide (a.size + b.size ≤ 1048576))) ∧ w' = w := by
  unfold maxLen at ha hb
  by_cases h : a.size ≤ 1048576
  · have h1 : ¬ (1048576 : Int) < (a.size : Int) := by omega
    by_cases g : b.size ≤ 1048576
    · have g1 : ¬ (1048576 : Int) < (b.size : Int) := by omega
      by_cases t : a.size + b.size ≤ 1048576
      · have t1 : ¬ (1048576 : Int) < (a.size : Int) + (b.size : Int) := by omega
        go_enter Tryd.func10, Tryd.ntmps10
        go_wp2
        go_ret
        exact ⟨by simp [t], rfl⟩
      · have t1 : (1048576 : Int) < (a.size : Int) + (b.size : Int) := by omega
        go_enter Tryd.func10, Tryd.ntmps10
        go_wp2
        go_ret
        exact ⟨by simp [t], rfl⟩
    · have g1 : (1048576 : Int) < (b.size : Int) := by omega
      have t : ¬ a.size + b.size ≤ 1048576 := by omega
      go_enter Tryd.func10, Tryd.ntmps10
      go_wp2
      go_ret
      exact ⟨by simp [t], rfl⟩
  · have h1 : (1048576 : Int) < (a.size : Int) := by omega
    have t : ¬ a.size + b.size ≤ 1048576 := by omega
    go_enter Tryd.func10, Tryd.ntmps10
    go_wp2
    go_ret
    exact ⟨by simp [t], rfl⟩

theorem asciiPre_at (s : ByteArray) (k : Nat) (h : k < s.size) : Blank.asciiPre (s.data.toList.drop k) = if Blank.common s[k] then Blank.asciiPre (s.data.toList.drop (k + 1)) + 1 else 0 := by
  rw [List.drop_eq_getElem_cons (by simpa using h)]
  rfl
theorem wrap_byte (b : UInt8) : wrap32 (b.toNat : Int) = (b.toNat : Int) := by have := b.toNat_lt; unfold wrap32; omega
theorem ret_int {k : IntKind} {a b : Int} (h : a = b) : Ending.returned (.int k a) = .returned (.int k b) := by rw [h]

set_option maxHeartbeats 400000 in
theorem ascii_any (s : ByteArray) (w : World) (hs : s.size ≤ maxLen) :
    Calls Tryd.prog 9 #[.string s] w fun e w' => e = .returned (.int .i64 (Blank.asciiPre s.data.toList)) ∧ w' = w := by
  unfold maxLen at hs
  go_enter Tryd.func9, Tryd.ntmps9
  go_wp2
  go_loop [3] (fun i => ∃ k : Nat, k ≤ s.size ∧ i = .int .i64 k ∧ Blank.asciiPre s.data.toList = k + Blank.asciiPre (s.data.toList.drop k)) (fun i => s.size - (intOf i).toNat)
  case atStart => exact ⟨0, Nat.zero_le _, rfl, by simp⟩
  case round =>
    obtain ⟨k, hk, rfl, hrel⟩ := hrel
    have HR := hide hrel
    clear hrel
    by_cases hlt : k < s.size
    · have hsn := hide (asciiPre_at s k hlt)
      cases hc : Blank.common s[k]
      · have hz : commonZ (wrap32 (s[k].toNat : Int)) = false := by rw [wrap_byte, commonZ_byte, hc]
        have hc' := hide hc
        clear hc
        go_wp2_with (go_at_call 13; refine (common_any _ _).mono ?_; rintro e w' ⟨rfl, rfl⟩)
        go_ret
        refine ⟨ret_int ?_, rfl⟩
        have h1 := unhide HR
        have h2 := unhide hsn
        rw [unhide hc'] at h2
        simp at h2
        omega
      · have hz : commonZ (wrap32 (s[k].toNat : Int)) = true := by rw [wrap_byte, commonZ_byte, hc]
        have hc' := hide hc
        clear hc
        go_wp2_with (go_at_call 13; refine (common_any _ _).mono ?_; rintro e w' ⟨rfl, rfl⟩)
        go_round
        case rel =>
          have h1 := unhide HR
          have h2 := unhide hsn
          rw [unhide hc'] at h2
          simp only [if_true] at h2
          exact ⟨k + 1, by omega, by go_num, by omega⟩
        case measure => simp [intOf]; omega
    · go_wp2
      go_ret
      refine ⟨ret_int ?_, rfl⟩
      have h1 := unhide HR
      rw [List.drop_of_length_le (by simp; omega)] at h1
      simp [Blank.asciiPre] at h1
      omega

def alnumZ (c : Int) : Bool := (decide (48 ≤ c) && decide (c ≤ 57)) || (decide (65 ≤ c) && decide (c ≤ 90)) || (decide (97 ≤ c) && decide (c ≤ 122))
theorem alnumZ_byte (b : UInt8) : alnumZ (b.toNat : Int) = Blank.alnum b := by
  simp only [alnumZ, Blank.alnum, UInt8.le_iff_toNat_le]
  rw [Bool.eq_iff_iff]
  simp
  omega
theorem firstAlnum_at (s : ByteArray) (k : Nat) (h : k < s.size) : Blank.firstAlnum (s.data.toList.drop k) = if Blank.alnum s[k] then 0 else Blank.firstAlnum (s.data.toList.drop (k + 1)) + 1 := by
  rw [List.drop_eq_getElem_cons (by simpa using h)]
  rfl

set_option maxHeartbeats 800000 in
theorem alnum_any (s : ByteArray) (w : World) (hs : s.size ≤ maxLen) :
    Calls Tryd.prog 11 #[.string s] w fun e w' => e = .returned (.int .i64 (Blank.firstAlnum s.data.toList)) ∧ w' = w := by
  unfold maxLen at hs
  go_enter Tryd.func11, Tryd.ntmps11
  go_wp2
  go_loop [3] (fun i => ∃ k : Nat, k ≤ s.size ∧ i = .int .i64 k ∧ Blank.firstAlnum s.data.toList = k + Blank.firstAlnum (s.data.toList.drop k)) (fun i => s.size - (intOf i).toNat)
  case atStart => exact ⟨0, Nat.zero_le _, rfl, by simp⟩
  case round =>
    obtain ⟨k, hk, rfl, hrel⟩ := hrel
    have HR := hide hrel
    clear hrel
    by_cases hlt : k < s.size
    · have hsn := hide (firstAlnum_at s k hlt)
      have hby := hide (alnumZ_byte s[k])
      have hfin : ∀ b : Bool, alnumZ (s[k].toNat : Int) = b → Hid (Blank.firstAlnum s.data.toList = k + if b then 0 else Blank.firstAlnum (s.data.toList.drop (k + 1)) + 1) := fun b hb => by
        have h1 := unhide HR
        rw [unhide hsn, ← unhide hby, hb] at h1
        exact h1
      cases hc : alnumZ (s[k].toNat : Int)
      · have HF := hfin _ hc
        clear hfin hsn hby HR
        have hc' := hide hc
        clear hc
        go_wp2
        all_goals first
          | (exfalso; have := unhide hc'; simp [alnumZ] at this; omega)
          | (go_round
             case rel =>
               have h1 := unhide HF
               simp only [Bool.false_eq_true, if_false] at h1
               exact ⟨k + 1, by omega, by go_num, by omega⟩
             case measure => simp [intOf]; omega)
      · have HF := hfin _ hc
        clear hfin hsn hby HR
        have hc' := hide hc
        clear hc
        go_wp2
        all_goals first
          | (exfalso; have := unhide hc'; simp [alnumZ] at this; omega)
          | (go_ret
             refine ⟨ret_int ?_, rfl⟩
             have h1 := unhide HF
             simp at h1
             omega)
    · go_wp2
      go_ret
      refine ⟨ret_int ?_, rfl⟩
      have h1 := unhide HR
      rw [List.drop_of_length_le (by simp; omega)] at h1
      simp [Blank.firstAlnum] at h1
      omega

end Go.Proofs.Qxb6618844aDoor
