/-
  THE PLAIN LAW of decided: over lists of numbers and a test 'a majority holds ballot b'. No Go text in sight.
-/
import GoSem.Core.Utf8
set_option linter.unusedVariables false
namespace Go.Proofs.Qxb6619756a.Dec

/-- decided, from ballot b on, the first value being f so far. -/
def dec (maj : Nat → Bool) : Nat → Int → List Int → Int × Int
  | _, f, [] => (f, 0)
  | b, f, v :: r => if v = 0 ∨ v = f then dec maj (b + 1) f r else if maj b = true then (if f ≠ 0 then (f, v) else dec maj (b + 1) v r) else dec maj (b + 1) f r

theorem dec_skip (maj : Nat → Bool) (b : Nat) (f v : Int) (r : List Int) (h : v = 0 ∨ v = f) : dec maj b f (v :: r) = dec maj (b + 1) f r := by simp only [dec]; rw [if_pos h]
theorem dec_no (maj : Nat → Bool) (b : Nat) (f v : Int) (r : List Int) (h : ¬ (v = 0 ∨ v = f)) (hm : maj b = false) : dec maj b f (v :: r) = dec maj (b + 1) f r := by
  simp only [dec]; rw [if_neg h, hm]; simp
theorem dec_first (maj : Nat → Bool) (b : Nat) (v : Int) (r : List Int) (h : ¬ (v = 0 ∨ v = 0)) (hm : maj b = true) : dec maj b 0 (v :: r) = dec maj (b + 1) v r := by
  simp only [dec]; rw [if_neg h, if_pos hm]; simp
theorem dec_second (maj : Nat → Bool) (b : Nat) (f v : Int) (r : List Int) (h : ¬ (v = 0 ∨ v = f)) (hm : maj b = true) (hf : f ≠ 0) : dec maj b f (v :: r) = (f, v) := by
  simp only [dec]; rw [if_neg h, if_pos hm, if_pos hf]

/-- One ballot more, behind all others: maj' agrees with maj below it. -/
theorem dec_snoc (maj maj' : Nat → Bool) (v : Int) : ∀ (r : List Int) (b : Nat) (f : Int), (∀ i, b ≤ i → i < b + r.length → maj' i = maj i) →
    dec maj' b f (r ++ [v]) = if (dec maj b f r).2 ≠ 0 then dec maj b f r else dec maj' (b + r.length) (dec maj b f r).1 [v]
  | [], b, f, _ => by rw [if_neg (fun h => h rfl)]; rfl
  | u :: r, b, f, h => by
    have ih := fun f' => dec_snoc maj maj' v r (b + 1) f' (fun i h1 h2 => h i (by omega) (by simp; omega))
    rw [List.cons_append]
    have hb : maj' b = maj b := h b (Nat.le_refl _) (by simp)
    have hl : b + (u :: r).length = b + 1 + r.length := by simp; omega
    rw [hl]
    by_cases h1 : u = 0 ∨ u = f
    · rw [dec_skip maj' b f u _ h1, dec_skip maj b f u _ h1]; exact ih f
    · cases hm : maj b
      · rw [dec_no maj' b f u _ h1 (hb.trans hm), dec_no maj b f u _ h1 hm]; exact ih f
      · by_cases hf : f = 0
        · subst hf
          rw [dec_first maj' b u _ h1 (hb.trans hm), dec_first maj b u _ h1 hm]; exact ih u
        · rw [dec_second maj' b f u _ h1 (hb.trans hm) hf, dec_second maj b f u _ h1 hm hf]
          have hu : u ≠ 0 := fun e => h1 (.inl e)
          simp [hu]

/-- What the law wants behind one unanimous ballot more. -/
theorem unanimous (maj maj' : Nat → Bool) (bs : List Int) (v : Int) (un : Bool) (h : ∀ i, i < bs.length → maj' i = maj i) (hk : maj' bs.length = un) :
    dec maj' 0 0 (bs ++ [v]) = ((if (un = true ∧ v ≠ 0 ∧ (dec maj 0 0 bs).2 = 0) ∧ (dec maj 0 0 bs).1 = 0 then v else (dec maj 0 0 bs).1),
      (if (un = true ∧ v ≠ 0 ∧ (dec maj 0 0 bs).2 = 0) ∧ (dec maj 0 0 bs).1 ≠ 0 ∧ v ≠ (dec maj 0 0 bs).1 then v else (dec maj 0 0 bs).2)) := by
  have e := dec_snoc maj maj' v bs 0 0 (fun i h1 h2 => h i (by omega))
  rw [e]
  generalize dec maj 0 0 bs = d at *
  obtain ⟨f0, s0⟩ := d
  simp only [Nat.zero_add]
  by_cases hs : s0 = 0
  · subst hs
    rw [if_neg (by simp)]
    simp only [dec, hk]
    by_cases hv : v = 0
    · simp [hv]
    · by_cases hf : v = f0
      · subst hf
        simp [hv]
      · cases un
        · simp [hv, hf]
        · by_cases h0 : f0 = 0
          · subst h0
            simp [hv]
          · simp [hv, hf, h0]
  · rw [if_pos hs]
    simp [hs]

end Go.Proofs.Qxb6619756a.Dec
