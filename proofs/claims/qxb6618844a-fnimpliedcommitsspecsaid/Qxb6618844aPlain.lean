/-
  THE PLAIN LAW of the implied commits, over lists: numbers of transactions, last operations. No Go text in sight.
-/
import GoSem.Core.Utf8
set_option linter.unusedVariables false
namespace Go.Proofs.Qxb6618844a.Imp

variable {α : Type} [DecidableEq α]

/-! ### the numbering -/
def addId (ids : List α) (t : α) : List α := if t ∈ ids then ids else ids ++ [t]
def idsOf (ts : List α) : List α := ts.foldl addId []
theorem idsOf_snoc (ts : List α) (t : α) : idsOf (ts ++ [t]) = addId (idsOf ts) t := by simp [idsOf, List.foldl_append]
theorem idsOf_take (ts : List α) (k : Nat) (t : α) (h : ts[k]? = some t) : idsOf (ts.take (k + 1)) = addId (idsOf (ts.take k)) t := by
  rw [List.take_add_one, h]; exact idsOf_snoc _ _
theorem prefix_add (ids : List α) (t : α) : ids <+: addId ids t := by
  unfold addId
  split
  · exact List.prefix_rfl
  · exact List.prefix_append _ _
theorem prefix_fold : ∀ (ts ids : List α), ids <+: ts.foldl addId ids
  | [], ids => List.prefix_rfl
  | t :: ts, ids => (prefix_add ids t).trans (prefix_fold ts (addId ids t))
theorem idsOf_prefix (ts : List α) (k : Nat) : idsOf (ts.take k) <+: idsOf ts := by
  have h : idsOf ts = (ts.drop k).foldl addId (idsOf (ts.take k)) := by
    conv => lhs; rw [← List.take_append_drop k ts]
    unfold idsOf
    rw [List.foldl_append]
  rw [h]
  exact prefix_fold _ _
theorem mem_add (ids : List α) (t s : α) : s ∈ addId ids t ↔ s ∈ ids ∨ s = t := by
  unfold addId
  split
  · rename_i h
    constructor
    · exact .inl
    · rintro (h' | rfl)
      · exact h'
      · exact h
  · simp
theorem mem_fold (s : α) : ∀ (ts ids : List α), s ∈ ts.foldl addId ids ↔ s ∈ ids ∨ s ∈ ts
  | [], ids => by simp
  | t :: ts, ids => by
    rw [List.foldl_cons, mem_fold s ts, mem_add]
    simp [or_assoc]
theorem mem_idsOf (ts : List α) (s : α) : s ∈ idsOf ts ↔ s ∈ ts := by
  unfold idsOf
  rw [mem_fold]
  simp
/-- The place of t in I. -/
def num (I : List α) (t : α) : Nat := I.idxOf t
theorem num_old (I : List α) (t s : α) (h : t ∈ I) : num (I ++ [s]) t = num I t := by
  unfold num; rw [List.idxOf_append, if_pos h]
theorem num_fresh (I : List α) (t : α) (h : t ∉ I) : num (I ++ [t]) t = I.length := by
  unfold num; rw [List.idxOf_append, if_neg h]; simp
theorem idx_append (I J : List α) (t : α) (h : t ∈ I) : (I ++ J).idxOf t = I.idxOf t := by
  rw [List.idxOf_append, if_pos h]
theorem idx_prefix {I J : List α} (h : I <+: J) (t : α) (ht : t ∈ I) : J.idxOf t = I.idxOf t := by
  obtain ⟨r, rfl⟩ := h
  exact idx_append I r t ht
theorem idx_new {I J : List α} (t : α) (ht : t ∉ I) (h : (I ++ [t]) <+: J) : J.idxOf t = I.length := by
  rw [idx_prefix h t (by simp), List.idxOf_append, if_neg ht]
  simp
theorem idx_lt (ts : List α) (t : α) (h : t ∈ ts) : num (idsOf ts) t < (idsOf ts).length := List.idxOf_lt_length_of_mem ((mem_idsOf ts t).2 h)
theorem idsOf_len (ts : List α) : (idsOf ts).length ≤ ts.length := by
  have : ∀ (ts ids : List α), (ts.foldl addId ids).length ≤ ids.length + ts.length := by
    intro ts
    induction ts with
    | nil => intro ids; simp
    | cons t ts ih =>
      intro ids
      rw [List.foldl_cons]
      have h1 := ih (addId ids t)
      have h2 : (addId ids t).length ≤ ids.length + 1 := by
        unfold addId
        split
        · omega
        · simp
      rw [List.length_cons]
      omega
  simpa [idsOf] using this ts []
theorem idx_inj (ts : List α) (s t : α) (hs : s ∈ ts) (ht : t ∈ ts) (h : num (idsOf ts) s = num (idsOf ts) t) : s = t := by
  have h1 := List.getElem_idxOf (idx_lt ts s hs)
  have h2 := List.getElem_idxOf (idx_lt ts t ht)
  rw [← h1, ← h2]
  congr 1
def ofs (ts : List α) : List Int := ts.map fun t => (num (idsOf ts) t : Int)
theorem ofs_len (ts : List α) : (ofs ts).length = ts.length := by simp [ofs]
theorem ofs_at (ts : List α) (k : Nat) (t : α) (h : ts[k]? = some t) : (ofs ts)[k]? = some (num (idsOf ts) t : Int) := by simp [ofs, h]

theorem num_hit (ts : List α) (k : Nat) (t : α) (h : ts[k]? = some t) (hin : t ∈ idsOf (ts.take k)) : idsOf (ts.take (k + 1)) = idsOf (ts.take k) ∧ num (idsOf ts) t = num (idsOf (ts.take k)) t := by
  refine ⟨?_, idx_prefix (idsOf_prefix ts k) t hin⟩
  rw [idsOf_take ts k t h]
  unfold addId
  rw [if_pos hin]
theorem num_miss (ts : List α) (k : Nat) (t : α) (h : ts[k]? = some t) (hin : t ∉ idsOf (ts.take k)) : idsOf (ts.take (k + 1)) = idsOf (ts.take k) ++ [t] ∧ num (idsOf ts) t = (idsOf (ts.take k)).length := by
  have e : idsOf (ts.take (k + 1)) = idsOf (ts.take k) ++ [t] := by
    rw [idsOf_take ts k t h]
    unfold addId
    rw [if_neg hin]
  exact ⟨e, idx_new t hin (e ▸ idsOf_prefix ts (k + 1))⟩

/-! ### the last operations -/
def lasts : List α → List Bool
  | [] => []
  | t :: r => (!(decide (t ∈ r))) :: lasts r
theorem lasts_len : ∀ ts : List α, (lasts ts).length = ts.length
  | [] => rfl
  | t :: r => by simp [lasts, lasts_len r]
theorem lasts_at : ∀ (ts : List α) (k : Nat) (t : α), ts[k]? = some t → (lasts ts)[k]? = some (!(decide (t ∈ ts.drop (k + 1))))
  | [], k, t, h => by simp at h
  | s :: r, 0, t, h => by
    simp at h
    subst h
    simp [lasts]
  | s :: r, k + 1, t, h => by
    simp only [lasts, List.getElem?_cons_succ, List.drop_succ_cons]
    exact lasts_at r k t (by simpa using h)

/-- WHAT ImpliedCommits ANSWERS: c: no operation's kind ends. -/
def implied (c : Bool) (ts : List α) : List Bool := if c then lasts ts else List.replicate ts.length false
theorem implied_len (c : Bool) (ts : List α) : (implied c ts).length = ts.length := by
  unfold implied
  split
  · exact lasts_len ts
  · simp
theorem implied_at (c : Bool) (ts : List α) (k : Nat) (t : α) (h : ts[k]? = some t) : (implied c ts)[k]? = some (c && !(decide (t ∈ ts.drop (k + 1)))) := by
  have hk : k < ts.length := (List.getElem?_eq_some_iff.1 h).1
  unfold implied
  cases c
  · simp [hk]
  · simpa using lasts_at ts k t h

/-- The place of each number's last operation among the first k. -/
def LastIs (ts : List α) (k : Nat) (L : List Int) : Prop :=
  L.length = (idsOf ts).length ∧ ∀ j t, j < k → ts[j]? = some t → (∀ i s, j < i → i < k → ts[i]? = some s → s ≠ t) → L[num (idsOf ts) t]? = some (j : Int)
theorem lastIs_zero (ts : List α) : LastIs ts 0 (List.replicate (idsOf ts).length 0) := ⟨by simp, fun j t h => by omega⟩
theorem lastIs_step (ts : List α) (k : Nat) (L : List Int) (t : α) (ht : ts[k]? = some t) (h : LastIs ts k L) : LastIs ts (k + 1) (L.set (num (idsOf ts) t) (k : Int)) := by
  obtain ⟨hl, hp⟩ := h
  refine ⟨by simpa using hl, fun j s hj hs hlast => ?_⟩
  by_cases e : s = t
  · subst e
    have hjk : j = k := by
      rcases Nat.lt_or_ge j k with h1 | h1
      · exact absurd rfl (hlast k s h1 (by omega) ht)
      · omega
    subst hjk
    rw [List.getElem?_set_self (by rw [hl]; exact idx_lt ts s (List.mem_of_getElem? ht))]
  · have hjk : j < k := by
      rcases Nat.lt_or_ge j k with h1 | h1
      · exact h1
      · have : j = k := by omega
        subst this
        rw [ht] at hs
        exact absurd (Option.some.inj hs).symm e
    have hne : num (idsOf ts) t ≠ num (idsOf ts) s := fun h => e (idx_inj ts s t (List.mem_of_getElem? hs) (List.mem_of_getElem? ht) h.symm)
    rw [List.getElem?_set_ne hne]
    exact hp j s hjk hs fun i u h1 h2 h3 => hlast i u h1 (by omega) h3

/-! ### from the last places to the answer -/
theorem nodup_add (ids : List α) (t : α) (h : ids.Nodup) : (addId ids t).Nodup := by
  unfold addId
  split
  · exact h
  · rename_i hn
    rw [List.nodup_append]
    exact ⟨h, by simp, fun a ha b hb e => by simp at hb; subst hb; subst e; exact hn ha⟩
theorem nodup_fold : ∀ (ts ids : List α), ids.Nodup → (ts.foldl addId ids).Nodup
  | [], ids, h => h
  | t :: ts, ids, h => nodup_fold ts (addId ids t) (nodup_add ids t h)
theorem nodup_idsOf (ts : List α) : (idsOf ts).Nodup := nodup_fold ts [] List.nodup_nil
theorem num_at (ts : List α) (s : Nat) (u : α) (h : (idsOf ts)[s]? = some u) : num (idsOf ts) u = s := by
  obtain ⟨hs, he⟩ := List.getElem?_eq_some_iff.1 h
  subst he
  unfold num
  exact List.Nodup.idxOf_getElem (nodup_idsOf ts) s hs

/-- Whoever occurs occurs last somewhere. -/
theorem last_exists : ∀ (ts : List α) (u : α), u ∈ ts → ∃ j : Nat, ts[j]? = some u ∧ ∀ (i : Nat) (s : α), j < i → ts[i]? = some s → s ≠ u
  | [], u, h => by simp at h
  | t :: r, u, h => by
    by_cases hr : u ∈ r
    · obtain ⟨j, h1, h2⟩ := last_exists r u hr
      refine ⟨j + 1, by simpa using h1, fun i s hi hs => ?_⟩
      obtain ⟨i', rfl⟩ : ∃ i', i = i' + 1 := ⟨i - 1, by omega⟩
      exact h2 i' s (by omega) (by simpa using hs)
    · have e : u = t := by simpa [hr] using h
      subst e
      refine ⟨0, by simp, fun i s hi hs => ?_⟩
      obtain ⟨i', rfl⟩ : ∃ i', i = i' + 1 := ⟨i - 1, by omega⟩
      intro e
      subst e
      exact hr (List.mem_of_getElem? (by simpa using hs))

/-- Each number's last place lies within the history. -/
theorem last_in (ts : List α) (L : List Int) (h : LastIs ts ts.length L) (s : Nat) (hs : s < (idsOf ts).length) :
    ∃ (j : Nat) (u : α), L[s]? = some (j : Int) ∧ ts[j]? = some u ∧ (∀ (i : Nat) (v : α), j < i → ts[i]? = some v → v ≠ u) ∧ j < ts.length := by
  obtain ⟨u, hu⟩ : ∃ u, (idsOf ts)[s]? = some u := ⟨_, List.getElem?_eq_getElem hs⟩
  obtain ⟨j, h1, h2⟩ := last_exists ts u ((mem_idsOf ts u).1 (List.mem_of_getElem? hu))
  have hj : j < ts.length := (List.getElem?_eq_some_iff.1 h1).1
  have h3 := h.2 j u hj h1 (fun i v hi _ hv => h2 i v hi hv)
  rw [num_at ts s u hu] at h3
  exact ⟨j, u, h3, h1, h2, hj⟩

/-- The marks behind the first m numbers. -/
def Marks (n : Nat) (L : List Int) (m : Nat) (bs : List Bool) : Prop := bs.length = n ∧ ∀ (i : Nat) (b : Bool), bs[i]? = some b → (b = true ↔ ∃ s : Nat, s < m ∧ L[s]? = some (i : Int))
theorem marks_zero (n : Nat) (L : List Int) : Marks n L 0 (List.replicate n false) := ⟨by simp, fun i b h => by
  have : b = false := by
    rw [List.getElem?_replicate] at h
    split at h
    · exact (Option.some.inj h).symm
    · cases h
  subst this
  simp⟩
theorem marks_step (n : Nat) (L : List Int) (m : Nat) (bs : List Bool) (j : Nat) (h : Marks n L m bs) (hj : L[m]? = some (j : Int)) : Marks n L (m + 1) (bs.set j true) := by
  obtain ⟨h1, h2⟩ := h
  refine ⟨by simpa using h1, fun i b hb => ?_⟩
  by_cases e : j = i
  · subst e
    have hlt : j < bs.length := by
      rcases Nat.lt_or_ge j bs.length with h | h
      · exact h
      · rw [List.getElem?_eq_none (by simpa using h)] at hb; cases hb
    rw [List.getElem?_set_self hlt] at hb
    cases hb
    exact ⟨fun _ => ⟨m, by omega, hj⟩, fun _ => rfl⟩
  · rw [List.getElem?_set_ne e] at hb
    rw [h2 i b hb]
    constructor
    · rintro ⟨s, hs, h⟩
      exact ⟨s, by omega, h⟩
    · rintro ⟨s, hs, h⟩
      refine ⟨s, ?_, h⟩
      rcases Nat.lt_or_ge s m with h' | h'
      · exact h'
      · have : s = m := by omega
        subst this
        rw [hj] at h
        have := Option.some.inj h
        omega
theorem marks_final (ts : List α) (L : List Int) (bs : List Bool) (hL : LastIs ts ts.length L) (h : Marks ts.length L (idsOf ts).length bs) : bs = lasts ts := by
  obtain ⟨h1, h2⟩ := h
  apply List.ext_getElem?
  intro i
  by_cases hi : i < ts.length
  · obtain ⟨t, ht⟩ : ∃ t, ts[i]? = some t := ⟨_, List.getElem?_eq_getElem hi⟩
    obtain ⟨b, hb⟩ : ∃ b, bs[i]? = some b := ⟨_, List.getElem?_eq_getElem (by omega)⟩
    rw [lasts_at ts i t ht, hb]
    congr 1
    rw [Bool.eq_iff_iff, h2 i b hb]
    have hmem : t ∈ ts.drop (i + 1) ↔ ∃ (k : Nat), i < k ∧ ts[k]? = some t := by
      constructor
      · intro hm
        obtain ⟨k, hk⟩ := List.getElem?_of_mem hm
        rw [List.getElem?_drop] at hk
        exact ⟨i + 1 + k, by omega, hk⟩
      · rintro ⟨k, hk, he⟩
        refine List.mem_of_getElem? (i := k - (i + 1)) ?_
        rw [List.getElem?_drop, show i + 1 + (k - (i + 1)) = k by omega]
        exact he
    simp only [Bool.not_eq_true', decide_eq_false_iff_not, hmem]
    constructor
    · rintro ⟨s, hs, hl⟩ ⟨k, hk, he⟩
      obtain ⟨j, u, g1, g2, g3, _⟩ := last_in ts L hL s hs
      rw [hl] at g1
      have : i = j := by have := Option.some.inj g1; omega
      subst this
      rw [ht] at g2
      have := Option.some.inj g2
      subst this
      exact g3 k t hk he rfl
    · intro hno
      have hm : t ∈ ts := List.mem_of_getElem? ht
      refine ⟨num (idsOf ts) t, idx_lt ts t hm, hL.2 i t hi ht fun k v hk _ hv e => ?_⟩
      subst e
      exact hno ⟨k, hk, hv⟩
  · rw [List.getElem?_eq_none (by omega), List.getElem?_eq_none (by rw [lasts_len]; omega)]

end Go.Proofs.Qxb6618844a.Imp
