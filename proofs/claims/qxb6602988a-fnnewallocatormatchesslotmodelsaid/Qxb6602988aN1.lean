import Derived.Test.Qxb6602988aA8
namespace Go.Proofs.Qxb6602988a
open Go.RowKit Go.WideShapes Go.ChangeShapes
set_option linter.unusedVariables false
set_option linter.unusedSimpArgs false

/-! ### free -/
theorem freeK_succ (Lu : SL) (k : Nat) : freeK Lu (k + 1) = if hasA Lu k then freeK Lu k else freeK Lu k ++ [k] := rfl
theorem freeK_prefix (Lu : SL) (k N : Nat) (h : k ≤ N) : ∃ r, freeK Lu N = freeK Lu k ++ r := by
  induction N with
  | zero => exact ⟨[], by rw [show k = 0 by omega]; simp⟩
  | succ n ih =>
    by_cases e : k = n + 1
    · exact ⟨[], by rw [e]; simp⟩
    · obtain ⟨r, hr⟩ := ih (by omega)
      rw [freeK_succ, hr]
      split
      · exact ⟨r, rfl⟩
      · exact ⟨r ++ [n], by simp⟩
/-- the free slot k stands behind the free slots below it -/
theorem freeK_at (Lu : SL) (k N : Nat) (h : k < N) (hf : hasA Lu k = false) : (freeK Lu k).length < (freeK Lu N).length ∧ (freeK Lu N).getD (freeK Lu k).length 0 = k := by
  obtain ⟨r, hr⟩ := freeK_prefix Lu (k + 1) N h
  rw [freeK_succ, hf] at hr
  rw [hr]
  simp

/-! ### of -/
/-- the entries seen in [k, N) -/
def SeenK (Lu : SL) (k N : Nat) (v : Verd) : Prop := ∃ s, k ≤ s ∧ s < N ∧ hasA Lu s = true ∧ valA Lu s = v
theorem ofK_succ (Lu : SL) (k : Nat) : ofK Lu (k + 1) = if hasA Lu k then aput (ofK Lu k) (valA Lu k) k else ofK Lu k := rfl
theorem ofK_nodup (Lu : SL) (N : Nat) : ((ofK Lu N).map Prod.fst).Nodup := by
  induction N with
  | zero => simp [ofK]
  | succ k ih =>
    rw [ofK_succ]
    split
    · exact aput_nodup _ _ _ ih
    · exact ih
theorem ofK_has (Lu : SL) (N : Nat) (v : Verd) : (aget (ofK Lu N) v).isSome = true ↔ SeenK Lu 0 N v := by
  induction N with
  | zero => simp [ofK, aget, SeenK]
  | succ k ih =>
    rw [ofK_succ]
    constructor
    · intro h
      split at h
      · rename_i hh
        rw [aget_aput] at h
        split at h
        · rename_i e
          exact ⟨k, by omega, by omega, hh, e.symm⟩
        · obtain ⟨s, h1, h2, h3⟩ := ih.1 h
          exact ⟨s, h1, by omega, h3⟩
      · obtain ⟨s, h1, h2, h3⟩ := ih.1 h
        exact ⟨s, h1, by omega, h3⟩
    · rintro ⟨s, h1, h2, h3, h4⟩
      by_cases e : s = k
      · subst e
        rw [h3, ← h4]
        simp [aget_aput]
      · have := ih.2 ⟨s, h1, by omega, h3, h4⟩
        split
        · rw [aget_aput]
          split
          · rfl
          · exact this
        · exact this
/-- the highest used slot of an entry is what 'of' has -/
theorem ofK_last (Lu : SL) (s N : Nat) (hs : s < N) (hh : hasA Lu s = true) (hl : ¬ SeenK Lu (s + 1) N (valA Lu s)) : aget (ofK Lu N) (valA Lu s) = some s := by
  induction N with
  | zero => omega
  | succ k ih =>
    rw [ofK_succ]
    by_cases e : s = k
    · subst e
      rw [hh]
      simp [aget_aput]
    · have h1 := ih (by omega) (fun ⟨x, a, b, c⟩ => hl ⟨x, a, by omega, c⟩)
      split
      · rename_i hk
        rw [aget_aput, if_neg]
        · exact h1
        · exact fun e' => hl ⟨k, by omega, by omega, hk, e'.symm⟩
      · exact h1
theorem SeenK_down (Lu : SL) (k N : Nat) (v : Verd) (hk : k < N) : SeenK Lu k N v ↔ (SeenK Lu (k + 1) N v ∨ (hasA Lu k = true ∧ valA Lu k = v)) := by
  constructor
  · rintro ⟨s, h1, h2, h3, h4⟩
    by_cases e : s = k
    · subst e; exact .inr ⟨h3, h4⟩
    · exact .inl ⟨s, by omega, h2, h3, h4⟩
  · rintro (⟨s, h1, h2, h3⟩ | ⟨h1, h2⟩)
    · exact ⟨s, by omega, h2, h3⟩
    · exact ⟨k, by omega, hk, h1, h2⟩
/-- two maps with the same keys are of one length -/
theorem len_of_keys {β γ : Type} (L : List (Verd × β)) (M : List (Verd × γ)) (h1 : (L.map Prod.fst).Nodup) (h2 : (M.map Prod.fst).Nodup) (h : ∀ v, (aget L v).isSome = true ↔ (aget M v).isSome = true) : L.length = M.length := by
  have key : ∀ {δ : Type} (K : List (Verd × δ)) (a : Verd), (aget K a).isSome = true ↔ a ∈ K.map Prod.fst := fun {δ} K a => by
    induction K with
    | nil => simp [aget]
    | cons q r ih =>
      unfold aget
      by_cases hq : q.1 = a
      · simp [hq]
      · have hq' : ¬ a = q.1 := fun e => hq e.symm
        rw [if_neg hq, ih, List.map_cons]
        simp only [List.mem_cons, hq', false_or]
  have hp : (L.map Prod.fst).Perm (M.map Prod.fst) := (List.perm_ext_iff_of_nodup h1 h2).2 (fun a => by rw [← key, ← key]; exact h a)
  simpa using hp.length_eq

/-! ### holding -/
theorem grpK_succ (Lu La : SL) (k : Nat) : grpK Lu La (k + 1) = if hasA Lu k then grpK Lu La k else if hasA La k then aput (grpK Lu La k) (valA La k) ((aget (grpK Lu La k) (valA La k)).getD [] ++ [k]) else grpK Lu La k := rfl
theorem grpK_nodup (Lu La : SL) (N : Nat) : ((grpK Lu La N).map Prod.fst).Nodup := by
  induction N with
  | zero => simp [grpK]
  | succ k ih =>
    rw [grpK_succ]
    split
    · exact ih
    · split
      · exact aput_nodup _ _ _ ih
      · exact ih
theorem grpK_len (Lu La : SL) (N : Nat) : (grpK Lu La N).length ≤ N := by
  induction N with
  | zero => simp [grpK]
  | succ k ih =>
    rw [grpK_succ]
    split
    · omega
    · split
      · rw [aput_length]
        split <;> omega
      · omega
/-- the place of a key -/
def idxOf {β : Type} : List (Verd × β) → Verd → Option Nat
  | [], _ => none
  | p :: r, v => if p.1 = v then some 0 else (idxOf r v).map (· + 1)
theorem idxOf_some {β : Type} (L : List (Verd × β)) (v : Verd) (j : Nat) (h : idxOf L v = some j) : ∃ u, L[j]? = some (v, u) := by
  induction L generalizing j with
  | nil => simp [idxOf] at h
  | cons p r ih =>
    unfold idxOf at h
    split at h
    · rename_i e
      cases h
      exact ⟨p.2, by rw [← e]; rfl⟩
    · cases hr : idxOf r v with
      | none => rw [hr] at h; simp at h
      | some i =>
        rw [hr] at h
        simp at h
        subst h
        obtain ⟨u, hu⟩ := ih i hr
        exact ⟨u, by simpa using hu⟩
theorem idxOf_none {β : Type} (L : List (Verd × β)) (v : Verd) : idxOf L v = none ↔ aget L v = none := by
  induction L with
  | nil => simp [idxOf, aget]
  | cons p r ih =>
    unfold idxOf aget
    split
    · simp
    · simp [ih]
theorem idxOf_aput_old {β : Type} (L : List (Verd × β)) (v w : Verd) (u : β) (h : aget L v ≠ none) : idxOf (aput L v u) w = idxOf L w := by
  induction L with
  | nil => simp [aget] at h
  | cons p r ih =>
    unfold aput
    split
    · rename_i e
      simp [idxOf, e]
    · rename_i e
      unfold aget at h
      rw [if_neg e] at h
      simp only [idxOf, ih h]
theorem idxOf_append {β : Type} (L : List (Verd × β)) (v w : Verd) (u : β) (h : aget L v = none) : idxOf (L ++ [(v, u)]) w = if w = v then some L.length else idxOf L w := by
  induction L with
  | nil =>
    simp [idxOf]
    by_cases e : w = v
    · simp [e]
    · have e' : ¬ v = w := fun h => e h.symm
      simp [e, e']
  | cons p r ih =>
    unfold aget at h
    split at h
    · cases h
    · rename_i hp
      have := ih h
      simp only [List.cons_append, idxOf, this]
      by_cases e : w = v
      · subst e
        simp [hp]
      · simp only [e, if_false]
theorem aput_at_idx {β : Type} (L : List (Verd × β)) (v : Verd) (u u0 : β) (j : Nat) (hj : L[j]? = some (v, u0)) (hn : (L.map Prod.fst).Nodup) : aput L v u = L.set j (v, u) ∧ aget L v = some u0 := ⟨aput_at L v u u0 hj hn, aget_at L v u0 hj hn⟩
end Go.Proofs.Qxb6602988a
