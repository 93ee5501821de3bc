import Derived.Test.Qxb6602988aA5
namespace Go.Proofs.Qxb6602988a
open Go.RowKit Go.WideShapes Go.ChangeShapes
set_option linter.unusedVariables false
set_option linter.unusedSimpArgs false

/-! ### plain facts on slots -/
theorem slotL_keys (A : Nat → Nat) (V P : Nat → Int) (n : Nat) (p : Nat × (Int × Int)) (h : p ∈ slotL A V P n) : ∃ i, i < n ∧ p.1 = A i := by
  have key : p.1 ∈ (slotL A V P n).map Prod.fst := List.mem_map.2 ⟨p, h, rfl⟩
  clear h
  induction n with
  | zero => simp [slotL] at key
  | succ k ih =>
    simp only [slotL, aput_keys] at key
    split at key
    · obtain ⟨i, hi, e⟩ := ih key
      exact ⟨i, by omega, e⟩
    · rcases List.mem_append.1 key with key | key
      · obtain ⟨i, hi, e⟩ := ih key
        exact ⟨i, by omega, e⟩
      · simp only [List.mem_singleton] at key
        exact ⟨k, by omega, key⟩
theorem slotL_has (A : Nat → Nat) (V P : Nat → Int) (n i : Nat) (hi : i < n) : ∃ p ∈ slotL A V P n, p.1 = A i := by
  have key : A i ∈ (slotL A V P n).map Prod.fst := by
    induction n with
    | zero => omega
    | succ k ih =>
      simp only [slotL, aput_keys]
      by_cases e : i = k
      · subst e
        split
        · assumption
        · simp
      · have := ih (by omega)
        split
        · exact this
        · exact List.mem_append_left _ this
  obtain ⟨p, hp, e⟩ := List.mem_map.1 key
  exact ⟨p, hp, e⟩
theorem nextM_spec (hw : Nat) (A : Nat → Nat) (n : Nat) : hw ≤ nextM hw A n ∧ (∀ i, i < n → A i + 1 ≤ nextM hw A n) ∧ (nextM hw A n = hw ∨ ∃ i, i < n ∧ nextM hw A n = A i + 1) := by
  induction n with
  | zero => exact ⟨Nat.le_refl _, fun i hi => by omega, .inl rfl⟩
  | succ k ih =>
    obtain ⟨h1, h2, h3⟩ := ih
    simp only [nextM]
    refine ⟨by omega, fun i hi => ?_, ?_⟩
    · by_cases e : i = k
      · subst e; omega
      · have := h2 i (by omega); omega
    · by_cases e : nextM hw A k ≤ A k + 1
      · exact .inr ⟨k, by omega, by omega⟩
      · rcases h3 with h3 | ⟨i, hi, h3⟩
        · exact .inl (by omega)
        · exact .inr ⟨i, by omega, by omega⟩
theorem isNext_eq (hw N : Nat) (A : Nat → Nat) (V P : Nat → Int) (n : Nat) (h : IsNext hw (slotL A V P n) N) : N = nextM hw A n := by
  obtain ⟨h1, h2, h3⟩ := nextM_spec hw A n
  obtain ⟨k1, k2, k3⟩ := h
  have le1 : N ≤ nextM hw A n := by
    rcases k3 with rfl | ⟨p, hp, rfl⟩
    · exact h1
    · obtain ⟨i, hi, e⟩ := slotL_keys A V P n p hp
      rw [e]; exact h2 i hi
  have le2 : nextM hw A n ≤ N := by
    rcases h3 with h3 | ⟨i, hi, h3⟩
    · rw [h3]; exact k1
    · obtain ⟨p, hp, e⟩ := slotL_has A V P n i hi
      rw [h3, ← e]; exact k2 p hp
  omega
/-- what is held is well formed -/
theorem slotL_wf (A : Nat → Nat) (V P : Nat → Int) (n : Nat) (hV : ∀ i, i < n → (Lit.int .u8 (V i)).wf = true) (hP : ∀ i, i < n → (Lit.int .u16 (P i)).wf = true) (i : Nat) : ∃ l, keyOf Try.prog 57 (evV (valA (slotL A V P n) i)) = some l := by
  have key : (Lit.int .u8 (valA (slotL A V P n) i).1).wf = true ∧ (Lit.int .u16 (valA (slotL A V P n) i).2).wf = true := by
    induction n with
    | zero => simp [slotL, valA, aget]; decide
    | succ k ih =>
      simp only [slotL, valA, aget_aput]
      split
      · exact ⟨hV k (by omega), hP k (by omega)⟩
      · exact ih (fun i hi => hV i (by omega)) (fun i hi => hP i (by omega))
  exact key57 key.1 key.2
theorem freeK_nodup (Lu : SL) (N : Nat) : (freeK Lu N).Nodup := by
  induction N with
  | zero => simp [freeK]
  | succ k ih =>
    unfold freeK
    split
    · exact ih
    · rw [List.nodup_append]
      refine ⟨ih, by simp, fun a ha b hb => ?_⟩
      simp only [List.mem_singleton] at hb
      have := ((mem_freeK Lu k a).1 ha).1
      omega

/-! ### the take law's count -/
theorem count_lt (fr : List Nat) (tk : Nat → Bool) (a : Nat) (ha : a ∈ fr) (hf : tk a = false) : (fr.filter tk).length < fr.length := by
  have := filter_len_lt tk (fun _ => true) (fun _ _ => rfl) a hf rfl fr ha
  have e : fr.filter (fun _ => true) = fr := List.filter_eq_self.2 (fun _ _ => rfl)
  rw [e] at this
  exact this
theorem count_all (fr : List Nat) (tk : Nat → Bool) (h : ∀ a ∈ fr, tk a = true) : (fr.filter tk).length = fr.length := by
  rw [List.filter_eq_self.2 h]
theorem count_put (fr : List Nat) (tk : Nat → Bool) (a : Nat) (ha : a ∈ fr) (hf : tk a = false) (hn : fr.Nodup) : (fr.filter (fun j => decide (j = a) || tk j)).length = (fr.filter tk).length + 1 := by
  induction fr with
  | nil => cases ha
  | cons x r ih =>
    obtain ⟨hx, hr⟩ := List.nodup_cons.1 hn
    rw [List.filter_cons, List.filter_cons]
    by_cases e : x = a
    · subst e
      have : r.filter (fun j => decide (j = x) || tk j) = r.filter tk := List.filter_congr (fun y hy => by
        have : y ≠ x := fun e => hx (e ▸ hy)
        simp [this])
      simp [hf, this]
    · have := ih (by rcases List.mem_cons.1 ha with h | h; exact absurd h.symm e; exact h) hr
      simp only [e, decide_false, Bool.false_or]
      cases tk x <;> simp [this]
theorem takeR_some {Lu La : SL} {N : Nat} {tk : Nat → Bool} {v : Verd} {a : Nat} (h : takeR (grpK Lu La N) (freeK Lu N) tk v = some a) : a ∈ freeK Lu N ∧ tk a = false := by
  unfold takeR at h
  rw [grp_held] at h
  cases h1 : (heldK Lu La v N).find? (fun a => !tk a) with
  | some b =>
    rw [h1] at h
    simp at h
    subst h
    have m := List.mem_of_find?_eq_some h1
    have p := List.find?_some h1
    exact ⟨(mem_freeK Lu N _).2 ⟨((mem_heldK Lu La v N _).1 m).1, ((mem_heldK Lu La v N _).1 m).2.1⟩, by simpa using p⟩
  | none =>
    rw [h1] at h
    simp at h
    exact ⟨List.mem_of_find?_eq_some h, by simpa using List.find?_some h⟩
theorem takeR_none {Lu La : SL} {N : Nat} {tk : Nat → Bool} {v : Verd} (h : takeR (grpK Lu La N) (freeK Lu N) tk v = none) : ∀ a ∈ freeK Lu N, tk a = true := by
  unfold takeR at h
  simp at h
  intro a ha
  have := h.2 a ha
  simpa using this
end Go.Proofs.Qxb6602988a
