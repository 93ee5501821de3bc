import Derived.Test.Qxb6603820aK1
/-
  The min-relaxation's plain law.
-/
namespace Go.Proofs.Qxb6603820a
set_option linter.unusedVariables false

/-- every key reaches its vertex and is not above it -/
def Sound (E : Nat → Nat → Prop) (n : Nat) (K : Nat → Int) : Prop := ∀ v, v < n → ∃ m : Nat, K v = m ∧ Reach E m v
def AllRight (E : Nat → Nat → Prop) (n : Nat) (K : Nat → Int) : Prop := ∀ v, v < n → Least E v (K v)
/-- after r rounds: all are right, or at least r are -/
def RS (E : Nat → Nat → Prop) (n r : Nat) (K : Nat → Int) : Prop := Sound E n K ∧ (∀ v, v < n → K v ≤ v) ∧ (AllRight E n K ∨ ∃ Cs : List Nat, Cs.Nodup ∧ (∀ x ∈ Cs, x < n ∧ Least E x (K x)) ∧ r ≤ Cs.length)
theorem RS.zero (E : Nat → Nat → Prop) (n : Nat) : RS E n 0 (fun v => (v : Int)) :=
  ⟨fun v _ => ⟨v, rfl, .refl v⟩, fun v _ => Int.le_refl _, .inr ⟨[], by simp, by simp, Nat.zero_le _⟩⟩
/-- in a round that began with K0: done is what has been read -/
structure RD (E : Nat → Nat → Prop) (n : Nat) (K0 K : Nat → Int) (ch : Bool) (done : Nat → Nat → Prop) : Prop where
  sound : Sound E n K
  le : ∀ v, v < n → K v ≤ K0 v
  read : ∀ j e, done j e → K e ≤ K0 j
  same : ch = false → ∀ v, v < n → K v = K0 v
theorem RD.start {E : Nat → Nat → Prop} {n : Nat} {K : Nat → Int} (h : Sound E n K) : RD E n K K false (fun _ _ => False) :=
  ⟨h, fun v _ => Int.le_refl _, fun j e h => h.elim, fun _ v _ => rfl⟩
theorem RD.mono {E : Nat → Nat → Prop} {n : Nat} {K0 K : Nat → Int} {ch : Bool} {d d' : Nat → Nat → Prop} (h : RD E n K0 K ch d) (hd : ∀ j e, d' j e → d j e) : RD E n K0 K ch d' :=
  ⟨h.sound, h.le, fun j e hj => h.read j e (hd j e hj), h.same⟩
/-- the edge (j, e) is read; it is not lowered -/
theorem RD.keep {E : Nat → Nat → Prop} {n j e : Nat} {K0 K : Nat → Int} {ch : Bool} {d : Nat → Nat → Prop} (h : RD E n K0 K ch d) (hj : j < n) (hk : ¬ K j < K e) : RD E n K0 K ch (fun a b => d a b ∨ (a = j ∧ b = e)) :=
  ⟨h.sound, h.le, fun a b hab => by
    rcases hab with hab | ⟨rfl, rfl⟩
    · exact h.read a b hab
    · have := h.le a hj
      omega, h.same⟩
/-- the edge (j, e) is read; e is lowered -/
theorem RD.lower {E : Nat → Nat → Prop} {n j e : Nat} {K0 K : Nat → Int} {ch : Bool} {d : Nat → Nat → Prop} (h : RD E n K0 K ch d) (hj : j < n) (he : e < n) (hE : E j e) (hk : K j < K e) : RD E n K0 (fun v => if v = e then K j else K v) true (fun a b => d a b ∨ (a = j ∧ b = e)) := by
  refine ⟨fun v hv => ?_, fun v hv => ?_, fun a b hab => ?_, fun hc => by cases hc⟩
  · by_cases ev : v = e
    · subst ev
      obtain ⟨m, h1, h2⟩ := h.sound j hj
      exact ⟨m, by simpa using h1, .step h2 hE⟩
    · simpa [ev] using h.sound v hv
  · have := h.le v hv
    by_cases ev : v = e
    · subst ev; simp; omega
    · simpa [ev] using this
  · show (if b = e then K j else K b) ≤ K0 a
    rcases hab with hab | ⟨rfl, rfl⟩
    · have := h.read a b hab
      split
      · rename_i eb; subst eb; omega
      · exact this
    · simp
      exact h.le a hj
theorem allRight_fix {E : Nat → Nat → Prop} {n : Nat} {K : Nat → Int} (hE : ∀ u v, E u v → u < n ∧ v < n) (hs : Sound E n K) (hle : ∀ v, v < n → K v ≤ v) (hf : ∀ j e, E j e → K e ≤ K j) : AllRight E n K := by
  intro v hv
  obtain ⟨m, h1, h2⟩ := hs v hv
  refine ⟨m, h1, h2, fun m' hr => ?_⟩
  have key : ∀ a b, Reach E a b → b < n → K b ≤ a := by
    intro a b hr
    induction hr using Reach.ind with
    | refl => exact fun hb => hle a hb
    | @step u b _ he ih =>
      intro _
      have := ih (hE _ _ he).1
      have := hf _ _ he
      omega
  have := key m' v hr hv
  omega
/-- along a path from the least, all have that least; where the path's end is wrong there is a crossing edge -/
theorem crossing {E : Nat → Nat → Prop} {n : Nat} {K : Nat → Int} (hE : ∀ u v, E u v → u < n ∧ v < n) (hs : Sound E n K) (hle : ∀ v, v < n → K v ≤ v) (m v : Nat) (hr : Reach E m v) (hm : ∀ m', Reach E m' v → m ≤ m') (hv : v < n) (hw : ¬ Least E v (K v)) :
    ∃ j e, E j e ∧ K j = m ∧ Least E j m ∧ Least E e m ∧ ¬ Least E e (K e) := by
  induction hr using Reach.ind with
  | refl =>
    exfalso
    apply hw
    obtain ⟨a, h1, h2⟩ := hs m hv
    have h3 := hm a h2
    have h4 := hle m hv
    refine ⟨m, by omega, .refl m, hm⟩
  | @step u v hr he ih =>
    have hu := (hE _ _ he).1
    have hmu : ∀ m', Reach E m' u → m ≤ m' := fun m' h' => hm m' (.step h' he)
    have lu : Least E u m := ⟨m, rfl, hr, hmu⟩
    by_cases hru : Least E u (K u)
    · exact ⟨u, v, he, hru.unique lu, lu, ⟨m, rfl, .step hr he, hm⟩, hw⟩
    · exact ih hmu hu hru
theorem least_exists (E : Nat → Nat → Prop) (v : Nat) : ∃ m, Reach E m v ∧ ∀ m', Reach E m' v → m ≤ m' := by
  have key : ∀ k, (∃ m, m < k ∧ Reach E m v) → ∃ m, Reach E m v ∧ ∀ m', Reach E m' v → m ≤ m' := by
    intro k
    induction k with
    | zero => rintro ⟨m, h, _⟩; omega
    | succ k ih =>
      rintro ⟨m, h1, h2⟩
      by_cases hx : ∃ m, m < k ∧ Reach E m v
      · exact ih hx
      · refine ⟨m, h2, fun m' hr => ?_⟩
        by_cases e : m' < k
        · exact absurd ⟨m', e, hr⟩ hx
        · have : ¬ m < k := fun e => hx ⟨m, e, h2⟩
          omega
  exact key (v + 1) ⟨v, by omega, .refl v⟩
/-- a round has been made -/
theorem RS.round {E : Nat → Nat → Prop} {n r : Nat} {K0 K : Nat → Int} {ch : Bool} (hE : ∀ u v, E u v → u < n ∧ v < n) (h0 : RS E n r K0) (h : RD E n K0 K ch E) : RS E n (r + 1) K ∧ (ch = false → AllRight E n K) := by
  have hle : ∀ v, v < n → K v ≤ v := fun v hv => by have := h.le v hv; have := h0.2.1 v hv; omega
  have stays : ∀ x, x < n → Least E x (K0 x) → Least E x (K x) := fun x hx ⟨m, h1, h2, h3⟩ => by
    obtain ⟨a, h4, h5⟩ := h.sound x hx
    have h6 := h3 a h5
    have h7 := h.le x hx
    exact ⟨m, by omega, h2, h3⟩
  refine ⟨⟨h.sound, hle, ?_⟩, fun hc => ?_⟩
  · rcases h0.2.2 with hall | ⟨Cs, c1, c2, c3⟩
    · exact .inl (fun v hv => stays v hv (hall v hv))
    · by_cases hall : AllRight E n K0
      · exact .inl (fun v hv => stays v hv (hall v hv))
      · right
        obtain ⟨v, hv, hw⟩ : ∃ v, v < n ∧ ¬ Least E v (K0 v) := by
          apply Classical.byContradiction
          intro hx
          apply hall
          intro v hv
          apply Classical.byContradiction
          exact fun hw => hx ⟨v, hv, hw⟩
        obtain ⟨m, hr, hm⟩ := least_exists E v
        obtain ⟨j, e, he, hj, lj, le, hwe⟩ := crossing hE h0.1 h0.2.1 m v hr hm hv hw
        have hen := (hE _ _ he).2
        refine ⟨e :: Cs, List.nodup_cons.2 ⟨fun hx => hwe (c2 e hx).2, c1⟩, fun x hx => ?_, by simp; omega⟩
        rcases List.mem_cons.1 hx with rfl | hx
        · refine ⟨hen, ?_⟩
          have h1 := h.read j x he
          obtain ⟨a, h4, h5⟩ := h.sound x hen
          obtain ⟨m', e1, h6, h7⟩ := le
          have h8 := h7 a h5
          exact ⟨m', by omega, h6, h7⟩
        · exact ⟨(c2 x hx).1, stays x (c2 x hx).1 (c2 x hx).2⟩
  · have hs := h.same hc
    refine allRight_fix hE h.sound hle (fun j e he => ?_)
    have := h.read j e he
    have := hs j (hE _ _ he).1
    omega
theorem RS.done {E : Nat → Nat → Prop} {n r : Nat} {K : Nat → Int} (h : RS E n r K) (hr : n < r) : AllRight E n K := by
  rcases h.2.2 with hall | ⟨Cs, c1, c2, c3⟩
  · exact hall
  · have := nodup_bound n Cs c1 (fun x hx => (c2 x hx).1)
    omega
end Go.Proofs.Qxb6603820a
