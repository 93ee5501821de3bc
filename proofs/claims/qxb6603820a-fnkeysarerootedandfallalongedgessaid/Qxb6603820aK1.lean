/-
  The keys' plain law: reachability, the least reaching index; no Go in sight.
-/
namespace Go.Proofs.Qxb6603820a

/-- v lies k edges behind m -/
def ReachIn (E : Nat → Nat → Prop) (m : Nat) : Nat → Nat → Prop
  | 0, v => m = v
  | k + 1, v => ∃ u, ReachIn E m k u ∧ E u v
def Reach (E : Nat → Nat → Prop) (m v : Nat) : Prop := ∃ k, ReachIn E m k v
theorem Reach.refl {E : Nat → Nat → Prop} (v : Nat) : Reach E v v := ⟨0, rfl⟩
theorem Reach.step {E : Nat → Nat → Prop} {m u v : Nat} (h : Reach E m u) (he : E u v) : Reach E m v := by
  obtain ⟨k, hk⟩ := h
  exact ⟨k + 1, u, hk, he⟩
theorem Reach.ind {E : Nat → Nat → Prop} {m : Nat} {P : ∀ v, Reach E m v → Prop} (refl : P m (.refl m))
    (step : ∀ {u v : Nat} (h : Reach E m u) (he : E u v), P u h → P v (h.step he)) : ∀ {v : Nat} (h : Reach E m v), P v h := by
  rintro v ⟨k, hk⟩
  induction k generalizing v with
  | zero => cases hk; exact refl
  | succ k ih =>
    obtain ⟨u, h1, h2⟩ := hk
    exact step ⟨k, h1⟩ h2 (ih h1)
theorem Reach.trans {E : Nat → Nat → Prop} {a b c : Nat} (h : Reach E a b) (k : Reach E b c) : Reach E a c := by
  induction k using Reach.ind with
  | refl => exact h
  | step _ he ih => exact .step ih he
/-- k is the least index that reaches v -/
def Least (E : Nat → Nat → Prop) (v : Nat) (k : Int) : Prop := ∃ m : Nat, k = m ∧ Reach E m v ∧ ∀ m', Reach E m' v → m ≤ m'
theorem Least.unique {E : Nat → Nat → Prop} {v : Nat} {k k' : Int} (h : Least E v k) (h' : Least E v k') : k = k' := by
  obtain ⟨m, rfl, h1, h2⟩ := h
  obtain ⟨m', rfl, h1', h2'⟩ := h'
  have := h2 _ h1'
  have := h2' _ h1
  omega

theorem nodup_bound (n : Nat) : ∀ l : List Nat, l.Nodup → (∀ x ∈ l, x < n) → l.length ≤ n := by
  induction n with
  | zero =>
    intro l _ h
    cases l with
    | nil => simp
    | cons x r => have := h x (by simp); omega
  | succ n ih =>
    intro l hn h
    have h1 := ih (l.erase n) (hn.erase n) (fun x hx => by
      have hx' := List.mem_of_mem_erase hx
      have := h x hx'
      have hne : x ≠ n := fun e => by
        subst e
        exact (hn.not_mem_erase) hx
      omega)
    have h2 : l.length ≤ (l.erase n).length + 1 := by
      rw [List.length_erase]
      split <;> omega
    omega

/-! ### keys() -/
def KS (E : Nat → Nat → Prop) (n i : Nat) (K : Nat → Int) : Prop := ∀ v, v < n → (K v = -1 ∧ ∀ m, m < i → ¬ Reach E m v) ∨ (Least E v (K v) ∧ K v < i)
theorem KS.zero (E : Nat → Nat → Prop) (n : Nat) : KS E n 0 (fun _ => -1) := fun v _ => .inl ⟨rfl, fun m hm => by omega⟩
theorem KS.nonneg {E : Nat → Nat → Prop} {n i : Nat} {K : Nat → Int} (h : KS E n i K) {v : Nat} (hv : v < n) : -1 ≤ K v := by
  rcases h v hv with ⟨h1, _⟩ | ⟨⟨m, h1, _⟩, _⟩ <;> omega
theorem KS.skip {E : Nat → Nat → Prop} {n i : Nat} {K : Nat → Int} (h : KS E n i K) (hi : i < n) (hk : 0 ≤ K i) : KS E n (i + 1) K := by
  intro v hv
  rcases h v hv with ⟨h1, h2⟩ | ⟨h1, h2⟩
  · refine .inl ⟨h1, fun m hm hr => ?_⟩
    by_cases e : m = i
    · subst e
      rcases h m hi with ⟨h3, _⟩ | ⟨⟨m', h3, h4, _⟩, h5⟩
      · omega
      · exact h2 m' (by omega) (h4.trans hr)
    · exact h2 m (by omega) hr
  · exact .inr ⟨h1, by omega⟩
theorem KS.done {E : Nat → Nat → Prop} {n : Nat} {K : Nat → Int} (h : KS E n n K) (v : Nat) (hv : v < n) : Least E v (K v) := by
  rcases h v hv with ⟨_, h2⟩ | ⟨h1, _⟩
  · exact absurd (.refl v) (h2 v hv)
  · exact h1
/-- inside the walk from i: Vs are marked, S is the stack, cur is being read -/
structure DS (E : Nat → Nat → Prop) (n i : Nat) (K : Nat → Int) (Vs S : List Nat) (cur : Nat → Prop) : Prop where
  key : ∀ v, v < n → (¬ v ∈ Vs ∧ ((K v = -1 ∧ ∀ m, m < i → ¬ Reach E m v) ∨ (Least E v (K v) ∧ K v < i))) ∨ (v ∈ Vs ∧ K v = i ∧ Reach E i v ∧ ∀ m, m < i → ¬ Reach E m v)
  root : i ∈ Vs
  nd : Vs.Nodup
  lt : ∀ x ∈ Vs, x < n
  st : ∀ x ∈ S, x ∈ Vs
  shut : ∀ u ∈ Vs, ¬ u ∈ S → ¬ cur u → ∀ e, e < n → E u e → 0 ≤ K e
theorem DS.start {E : Nat → Nat → Prop} {n i : Nat} {K : Nat → Int} (h : KS E n i K) (hi : i < n) (hk : ¬ 0 ≤ K i) : DS E n i (fun v => if v = i then (i : Int) else K v) [i] [i] (fun _ => False) := by
  refine ⟨fun v hv => ?_, by simp, by simp, fun x hx => by simp at hx; omega, fun x hx => hx, fun u hu hs => absurd hu hs⟩
  by_cases e : v = i
  · subst e
    rcases h v hv with ⟨_, h2⟩ | ⟨⟨m, h1, _⟩, _⟩
    · exact .inr ⟨by simp, by simp, .refl v, h2⟩
    · omega
  · exact .inl ⟨by simpa using e, by simpa [e] using h v hv⟩
theorem DS.nonneg {E : Nat → Nat → Prop} {n i : Nat} {K : Nat → Int} {Vs S : List Nat} {cur : Nat → Prop} (h : DS E n i K Vs S cur) {v : Nat} (hv : v < n) : -1 ≤ K v := by
  rcases h.key v hv with ⟨_, h1⟩ | ⟨_, h1, _⟩
  · rcases h1 with ⟨h1, _⟩ | ⟨⟨m, h1, _⟩, _⟩ <;> omega
  · omega
/-- j is taken off the stack -/
theorem DS.pop {E : Nat → Nat → Prop} {n i j : Nat} {K : Nat → Int} {Vs S : List Nat} (h : DS E n i K Vs (S ++ [j]) (fun _ => False)) : DS E n i K Vs S (fun u => u = j) ∧ j ∈ Vs ∧ j < n := by
  have hj := h.st j (by simp)
  refine ⟨⟨h.key, h.root, h.nd, h.lt, fun x hx => h.st x (by simp [hx]), fun u hu hs hc e he hE => h.shut u hu (fun hm => ?_) (fun hf => hf) e he hE⟩, hj, h.lt j hj⟩
  rcases List.mem_append.1 hm with hm | hm
  · exact hs hm
  · exact hc (by simpa using hm)
/-- e is marked -/
theorem DS.mark {E : Nat → Nat → Prop} {n i j e : Nat} {K : Nat → Int} {Vs S : List Nat} {cur : Nat → Prop} (h : DS E n i K Vs S cur) (hj : j ∈ Vs) (he : e < n) (hE : E j e) (hk : ¬ 0 ≤ K e) :
    DS E n i (fun v => if v = e then (i : Int) else K v) (e :: Vs) (S ++ [e]) cur ∧ ¬ e ∈ Vs := by
  have hev : ¬ e ∈ Vs := fun hm => by
    rcases h.key e he with ⟨h1, _⟩ | ⟨_, h1, _⟩
    · exact h1 hm
    · omega
  refine ⟨⟨fun v hv => ?_, by simp [h.root], List.nodup_cons.2 ⟨hev, h.nd⟩, fun x hx => ?_, fun x hx => ?_, fun u hu hs hc e' he' hE' => ?_⟩, hev⟩
  · by_cases ev : v = e
    · subst ev
      right
      refine ⟨by simp, by simp, ?_, ?_⟩
      · rcases h.key j (h.lt j hj) with ⟨h1, _⟩ | ⟨_, _, h1, _⟩
        · exact absurd hj h1
        · exact .step h1 hE
      · rcases h.key v he with ⟨_, h1⟩ | ⟨h1, _⟩
        · rcases h1 with ⟨_, h2⟩ | ⟨⟨m, h2, _⟩, _⟩
          · exact h2
          · omega
        · exact absurd h1 hev
    · simp only [if_neg ev]
      rcases h.key v hv with ⟨h1, h2⟩ | ⟨h1, h2⟩
      · exact .inl ⟨by simp [ev, h1], h2⟩
      · exact .inr ⟨by simp [h1], h2⟩
  · rcases List.mem_cons.1 hx with rfl | hx
    · exact he
    · exact h.lt x hx
  · rcases List.mem_append.1 hx with hx | hx
    · simp [h.st x hx]
    · simp at hx; simp [hx]
  · have hue : u ≠ e := fun e2 => hs (by simp [e2])
    have huv : u ∈ Vs := by
      rcases List.mem_cons.1 hu with hu | hu
      · exact absurd hu hue
      · exact hu
    show 0 ≤ (if e' = e then (i : Int) else K e')
    split
    · omega
    · exact h.shut u huv (fun hm => hs (by simp [hm])) hc e' he' hE'
/-- all of j's edges have been read -/
theorem DS.close {E : Nat → Nat → Prop} {n i j : Nat} {K : Nat → Int} {Vs S : List Nat} (h : DS E n i K Vs S (fun u => u = j)) (hall : ∀ e, e < n → E j e → 0 ≤ K e) : DS E n i K Vs S (fun _ => False) :=
  ⟨h.key, h.root, h.nd, h.lt, h.st, fun u hu hs _ e he hE => by
    by_cases hu' : u = j
    · subst hu'; exact hall e he hE
    · exact h.shut u hu hs hu' e he hE⟩
theorem DS.done {E : Nat → Nat → Prop} {n i : Nat} {K : Nat → Int} {Vs : List Nat} (hE : ∀ u v, E u v → u < n ∧ v < n) (h : DS E n i K Vs [] (fun _ => False)) : KS E n (i + 1) K := by
  have key : ∀ v, Reach E i v → v < n → 0 ≤ K v := by
    intro v hr
    induction hr using Reach.ind with
    | refl =>
      intro hv
      rcases h.key i hv with ⟨h1, _⟩ | ⟨_, h1, _⟩
      · exact absurd h.root h1
      · omega
    | @step u v hr he ih =>
      intro hv
      have hu := (hE _ _ he).1
      have hk := ih hu
      rcases h.key u hu with ⟨h1, h2⟩ | ⟨h1, h2⟩
      · rcases h2 with ⟨h3, _⟩ | ⟨⟨m, h3, h4, _⟩, h5⟩
        · omega
        · rcases h.key v hv with ⟨_, h6⟩ | ⟨_, h6, _⟩
          · rcases h6 with ⟨_, h7⟩ | ⟨⟨m', h7, _⟩, _⟩
            · exact absurd (.step h4 he) (h7 m (by omega))
            · omega
          · omega
      · exact h.shut u h1 (by simp) (fun hf => hf) v hv he
  intro v hv
  rcases h.key v hv with ⟨h1, h2⟩ | ⟨h1, h2, h3, h4⟩
  · rcases h2 with ⟨h2, h3⟩ | ⟨h2, h3⟩
    · refine .inl ⟨h2, fun m hm hr => ?_⟩
      by_cases e : m = i
      · subst e
        have := key v hr hv
        omega
      · exact h3 m (by omega) hr
    · exact .inr ⟨h2, by omega⟩
  · refine .inr ⟨⟨i, h2, h3, fun m' hr => ?_⟩, by omega⟩
    by_cases e : m' < i
    · exact absurd hr (h4 m' e)
    · omega

/-! ### what statement 7 asks -/
section
variable {E : Nat → Nat → Prop} {v : Nat} {k : Int}
theorem Least.le (h : Least E v k) : 0 ≤ k ∧ k ≤ v := by
  obtain ⟨m, rfl, _, h2⟩ := h
  have := h2 v (.refl v)
  omega
theorem Least.root {k' : Int} (h : Least E v k) (h' : Least E k.toNat k') : k' = k := by
  obtain ⟨m, rfl, h1, h2⟩ := h
  refine Least.unique h' ⟨m, rfl, .refl m, fun m' hr => h2 m' (hr.trans h1)⟩
theorem Least.alone (h : Least E v k) (hin : ∀ u, E u v → u = v) : k = v := by
  obtain ⟨m, rfl, h1, h2⟩ := h
  have : ∀ a b, Reach E a b → b = v → a = v := by
    intro a b hr
    induction hr using Reach.ind with
    | refl => exact fun e => e
    | step _ he ih => intro e; subst e; exact ih (hin _ he)
  have := this m v h1 rfl
  omega
theorem Least.edge {u : Nat} {ku : Int} (h : Least E v k) (hu : Least E u ku) (he : E u v) : k ≤ ku := by
  obtain ⟨m, rfl, h1, h2⟩ := h
  obtain ⟨m', rfl, h1', h2'⟩ := hu
  have := h2 m' (.step h1' he)
  omega
end
end Go.Proofs.Qxb6603820a
