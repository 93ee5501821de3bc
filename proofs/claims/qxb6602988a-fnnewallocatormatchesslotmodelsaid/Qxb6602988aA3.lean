/-
  The allocator in memory: 'AllocAt', and what a step of newAllocator does to it.
-/
import Derived.Test.Qxb6602988aA2
import Derived.Deep.AppendLies
namespace Go.Proofs.Qxb6602988a
open Go.RowKit
set_option linter.unusedVariables false
set_option linter.unusedSimpArgs false

/-- six cells -/
def acells (a b c d e f : Value) : Nat → Value
  | 0 => a | 1 => b | 2 => c | 3 => d | 4 => e | _ => f
theorem RowB.ne {w : World} {g g' : Nat} {T T' : TypeId} {n n' : Nat} {f f' : Nat → Value} (h : RowB w g T n f) (h' : RowB w g' T' n' f') (hT : T ≠ T') : g ≠ g' := by
  obtain ⟨c, hb, _⟩ := h
  obtain ⟨c', hb', _⟩ := h'
  intro e
  rw [e, hb'] at hb
  simp at hb
  exact hT hb.2.symm
theorem RowB.ne_map {α β : Type} {w : World} {g b : Nat} {T : TypeId} {n : Nat} {f : Nat → Value} {P : Program} {k : TypeId} {ek : α → Value} {ev : β → Value} {L : List (α × β)} (h : RowB w g T n f) (h' : MapL w P k b ek ev L) : g ≠ b := by
  obtain ⟨c, hb, _⟩ := h
  obtain ⟨es, cl, hb', _⟩ := h'.block
  intro e
  rw [e, hb'] at hb
  simp at hb
/-- the block of an owned row is of its own type -/
theorem ownsRow_ne {w : World} {base : Nat} {e : TypeId} {size n : Nat} {v : Value} {xs : List Value} (h : w.ownsRow base e size v n xs) {g : Nat} (hg : v.ownBlock = some g) : ∃ cur, w.heap[g]? = some (.cells cur e (0, 0)) := by
  rcases h.2 with ⟨rfl, _⟩ | ⟨g', cap, cur, rfl, _, hgg, _⟩
  · simp [Value.ownBlock] at hg
  · simp [Value.ownBlock] at hg
    subst hg
    exact ⟨cur, hgg⟩
theorem ownsRow_of_block {w w' : World} {base : Nat} {e : TypeId} {size n : Nat} {v : Value} {xs : List Value} (h : w.ownsRow base e size v n xs) (hb : ∀ g, v.ownBlock = some g → w'.heap[g]? = w.heap[g]?) : w'.ownsRow base e size v n xs := by
  refine ⟨h.1, ?_⟩
  rcases h.2 with hn | ⟨g, cap, cur, rfl, hbb, hgg, rest⟩
  · exact .inl hn
  · exact .inr ⟨g, cap, cur, rfl, hbb, by rw [hb g rfl]; exact hgg, rest⟩

/-- an element of holding: nil, or (block, length, capacity) -/
def evH : Option (Nat × Nat × Nat) → Value
  | none => .slice none 0 0
  | some x => .slice (some ⟨x.1, 0, none⟩) x.2.1 x.2.2

abbrev Verd := Int × Int

structure AllocAt (w : World) (base p N low mo mh tg : Nat) (fv : Value) (Lof : List (Verd × Nat)) (fr : List Nat) (tk : Nat → Bool) (Lh : List (Verd × Option (Nat × Nat × Nat))) (grp : List (Verd × List Nat)) : Prop where
  blk : RowB w p 85 6 (acells (.map (some mo)) fv (.slice (some ⟨tg, 0, none⟩) N N) (.int .i64 low) (.map (some mh)) (.int .u32 N))
  of : MapL w Try.prog 57 mo evV ekN Lof
  free : w.ownsRow base 42 1 fv fr.length (fr.map ekN)
  taken : RowB w tg 4 N (fun i => .bool (tk i))
  hold : MapL w Try.prog 57 mh evV evH Lh
  keys : Lh.map Prod.fst = grp.map Prod.fst
  rows : ∀ v h, aget Lh v = some h → ∃ ns, aget grp v = some ns ∧ w.ownsRow base 42 1 (evH h) ns.length (ns.map ekN)
  apart : ∀ v v' h h', aget Lh v = some h → aget Lh v' = some h' → v ≠ v' → (evH h).ownBlock = none ∨ (evH h).ownBlock ≠ (evH h').ownBlock
  fapart : ∀ v h, aget Lh v = some h → (evH h).ownBlock = none ∨ (evH h).ownBlock ≠ fv.ownBlock
  mm : mo ≠ mh
  big : base ≤ p ∧ base ≤ mo ∧ base ≤ mh ∧ base ≤ tg

section
variable {w w' : World} {base p N low mo mh tg : Nat} {fv : Value} {Lof : List (Verd × Nat)} {fr : List Nat} {tk : Nat → Bool} {Lh : List (Verd × Option (Nat × Nat × Nat))} {grp : List (Verd × List Nat)}

/-- nothing of the allocator's has turned -/
theorem AllocAt.kept (h : AllocAt w base p N low mo mh tg fv Lof fr tk Lh grp) {B : Nat} (hB : ∀ g, g < w.heap.size → w'.heap[g]? = w.heap[g]?) : AllocAt w' base p N low mo mh tg fv Lof fr tk Lh grp := by
  have hr : ∀ {v : Value} {n : Nat} {xs : List Value}, w.ownsRow base 42 1 v n xs → w'.ownsRow base 42 1 v n xs := fun {v n xs} ho =>
    ownsRow_of_block ho (fun g hg => hB g (ho.lt g hg).2)
  refine ⟨h.blk.of_block (hB _ h.blk.lt), h.of.of_block (hB _ h.of.lt), hr h.free, h.taken.of_block (hB _ h.taken.lt), h.hold.of_block (hB _ h.hold.lt), h.keys, fun v x hx => ?_, h.apart, h.fapart, h.mm, h.big⟩
  obtain ⟨ns, h1, h2⟩ := h.rows v x hx
  exact ⟨ns, h1, hr h2⟩
theorem AllocAt.alloc (h : AllocAt w base p N low mo mh tg fv Lof fr tk Lh grp) (o : Obj) : AllocAt (w.alloc o) base p N low mo mh tg fv Lof fr tk Lh grp := h.kept (B := 0) (fun g hg => Below.heap_alloc _ _ _ hg)
theorem AllocAt.drew (h : AllocAt w base p N low mo mh tg fv Lof fr tk Lh grp) : AllocAt w.drew base p N low mo mh tg fv Lof fr tk Lh grp := h.kept (B := 0) (fun g hg => rfl)
theorem AllocAt.below (h : AllocAt w base p N low mo mh tg fv Lof fr tk Lh grp) (hb : Below w.heap.size w w') : AllocAt w' base p N low mo mh tg fv Lof fr tk Lh grp := h.kept (B := 0) (fun g hg => hb.block g hg)

/-- only the map 'of' has turned -/
theorem AllocAt.of_put (h : AllocAt w base p N low mo mh tg fv Lof fr tk Lh grp) {Lof' : List (Verd × Nat)} (ht : w.mapTurned w' mo) (hm : MapL w' Try.prog 57 mo evV ekN Lof') : AllocAt w' base p N low mo mh tg fv Lof' fr tk Lh grp := by
  have hg := ht.grown
  have hB : ∀ g, g < w.heap.size → g ≠ mo → w'.heap[g]? = w.heap[g]? := fun g h1 h2 => hg.block g h1 (by simpa using h2)
  have hr : ∀ {v : Value} {n : Nat} {xs : List Value}, w.ownsRow base 42 1 v n xs → w'.ownsRow base 42 1 v n xs := fun {v n xs} ho =>
    ownsRow_of_block ho (fun g hg => hB g (ho.lt g hg).2 (fun e => by
      obtain ⟨cur, hc⟩ := ownsRow_ne ho hg
      obtain ⟨es, cl, hb, _⟩ := h.of.block
      rw [e, hb] at hc
      simp at hc))
  refine ⟨h.blk.of_block (hB _ h.blk.lt (h.blk.ne_map h.of)), hm, hr h.free, h.taken.of_block (hB _ h.taken.lt (h.taken.ne_map h.of)), h.hold.of_block (hB _ h.hold.lt h.mm.symm), h.keys, fun v x hx => ?_, h.apart, h.fapart, h.mm, h.big⟩
  obtain ⟨ns, h1, h2⟩ := h.rows v x hx
  exact ⟨ns, h1, hr h2⟩
end

/-! ### append of one slot to a row of slots -/
theorem Try.info42 : (Try.prog.info? 42).map (fun i => (i.zero, i.size, i.bytes)) = some (some (.int .u32 0), 1, 4) := by kernel_rfl
theorem app51 (ty : TypeId) (w : World) (base : Nat) (v : Value) (xs : List Nat) (x : Nat) (c : Nat) (hown : w.ownsRow base 42 1 v xs.length (xs.map ekN)) (hc : w.cell? ⟨c, 0, none⟩ = some (.int .u32 (x : Int))) (hl : xs.length ≤ 1048576) (hb : base ≤ w.heap.size) :
    ∃ g cap w', (Builtin.append_ #[51, 51] ty #[v, .slice (some ⟨c, 0, none⟩) 1 1]).run Try.prog w = .ok (.slice (some ⟨g, 0, none⟩) (xs.length + 1) cap) w' ∧
      w'.ownsRow base 42 1 (.slice (some ⟨g, 0, none⟩) (xs.length + 1) cap) (xs ++ [x]).length ((xs ++ [x]).map ekN) ∧ w.grownBy w' v.ownBlock ∧ (v.ownBlock = some g ∨ g = w.heap.size) ∧ g < w'.heap.size := by
  obtain ⟨i, hi, hz, h1, h2⟩ := info_parts Try.info42
  obtain ⟨g, cap, w', hr, ho, hg, hl', hlt⟩ := run_append_lies (P := Try.prog) w 51 ty base 42 i _ 1 4 Try.underlying51 hi hz h1 h2 rfl (by omega) v xs.length (xs.map ekN) hown ⟨c, 0, none⟩ 1 1 [ekN x] rfl
    (fun j u hj => by
      match j, hj with
      | 0, hj => simp at hj; subst hj; simpa [Addr.add, ekN] using hc)
    (fun u hu => by simp at hu; subst hu; rfl) (by omega) (by unfold maxLen; omega) (by omega) hb w.heap.size rfl
  exact ⟨g, cap, w', hr, by simpa using ho, hg, hl', hlt⟩

theorem aget_isSome_of_keys {α β γ : Type} [DecidableEq α] {L : List (α × β)} {M : List (α × γ)} (h : L.map Prod.fst = M.map Prod.fst) (a : α) : (aget L a).isSome = (aget M a).isSome := by
  have key : ∀ {δ : Type} (K : List (α × δ)), (aget K a).isSome = decide (a ∈ K.map Prod.fst) := fun {δ} K => by
    induction K with
    | nil => simp [aget]
    | cons q r ih =>
      unfold aget
      by_cases hq : q.1 = a
      · simp [hq]
      · have hq' : ¬ a = q.1 := fun e => hq e.symm
        rw [if_neg hq, ih, List.map_cons]
        simp only [List.mem_cons, hq', false_or]
  rw [key, key, h]

section
variable {w w' : World} {base p N low mo mh tg : Nat} {fv : Value} {Lof : List (Verd × Nat)} {fr : List Nat} {tk : Nat → Bool} {Lh : List (Verd × Option (Nat × Nat × Nat))} {grp : List (Verd × List Nat)}

/-- 'a.free = append(a.free, x)': the append has been made, and its answer is stored -/
theorem AllocAt.free_push (h : AllocAt w base p N low mo mh tg fv Lof fr tk Lh grp) {g cap x : Nat} {w2 : World} (hg : w.grownBy w2 fv.ownBlock) (hl : fv.ownBlock = some g ∨ g = w.heap.size)
    (ho : w2.ownsRow base 42 1 (.slice (some ⟨g, 0, none⟩) (fr.length + 1) cap) (fr ++ [x]).length ((fr ++ [x]).map ekN)) :
    AllocAt (w2.setCell ⟨p, 1, none⟩ (.slice (some ⟨g, 0, none⟩) (fr.length + 1) cap)) base p N low mo mh tg (.slice (some ⟨g, 0, none⟩) (fr.length + 1) cap) Lof (fr ++ [x]) tk Lh grp := by
  have hfb : ∀ b, fv.ownBlock = some b → ∃ cur, w.heap[b]? = some (.cells cur 42 (0, 0)) := fun b hb => ownsRow_ne h.free hb
  -- a block of the allocator's that is no row of slots
  have hB : ∀ b, b < w.heap.size → (∀ cur, w.heap[b]? ≠ some (.cells cur 42 (0, 0))) → w2.heap[b]? = w.heap[b]? := fun b h1 h2 => hg.block b h1 (fun e => by
    obtain ⟨cur, hc⟩ := hfb b e.symm
    exact h2 cur hc)
  have hp : w2.heap[p]? = w.heap[p]? := hB p h.blk.lt (fun cur hc => by obtain ⟨c, hb, _⟩ := h.blk; rw [hb] at hc; simp at hc)
  have htg : w2.heap[tg]? = w.heap[tg]? := hB tg h.taken.lt (fun cur hc => by obtain ⟨c, hb, _⟩ := h.taken; rw [hb] at hc; simp at hc)
  have hmo : w2.heap[mo]? = w.heap[mo]? := hB mo h.of.lt (fun cur hc => by obtain ⟨es, cl, hb, _⟩ := h.of.block; rw [hb] at hc; simp at hc)
  have hmh : w2.heap[mh]? = w.heap[mh]? := hB mh h.hold.lt (fun cur hc => by obtain ⟨es, cl, hb, _⟩ := h.hold.block; rw [hb] at hc; simp at hc)
  have hpt : p ≠ tg := h.blk.ne h.taken (by decide)
  have hpo := h.blk.ne_map h.of
  have hph := h.blk.ne_map h.hold
  have hset : ∀ b, b ≠ p → (w2.setCell ⟨p, 1, none⟩ (.slice (some ⟨g, 0, none⟩) (fr.length + 1) cap)).heap[b]? = w2.heap[b]? := fun b hb => Below.heap_setCell _ _ _ _ hb
  have hrow : ∀ {v : Value} {n : Nat} {xs : List Value}, w2.ownsRow base 42 1 v n xs → (w2.setCell ⟨p, 1, none⟩ (.slice (some ⟨g, 0, none⟩) (fr.length + 1) cap)).ownsRow base 42 1 v n xs := fun {v n xs} hv =>
    ownsRow_of_block hv (fun b hb => hset b (fun e => by
      obtain ⟨cur, hc⟩ := ownsRow_ne hv hb
      obtain ⟨c, hb', _⟩ := h.blk
      rw [e, hp, hb'] at hc
      simp at hc))
  have hnew : ∀ v x, aget Lh v = some x → (evH x).ownBlock = none ∨ (evH x).ownBlock ≠ some g := fun v x hx => by
    rcases h.fapart v x hx with h1 | h1
    · exact .inl h1
    · rcases hl with h2 | h2
      · exact .inr (by rw [← h2]; exact h1)
      · cases hb : (evH x).ownBlock with
        | none => exact .inl rfl
        | some b =>
          obtain ⟨ns, _, h3⟩ := h.rows v x hx
          have := (h3.lt b hb).2
          exact .inr (fun e => by simp at e; omega)
  refine ⟨((h.blk.of_block hp).setCell (i := 1) _).congr (fun j hj => ?_), (h.of.of_block hmo).of_block (hset _ hpo.symm), hrow ho, (h.taken.of_block htg).of_block (hset _ hpt.symm), (h.hold.of_block hmh).of_block (hset _ hph.symm), h.keys, fun v x hx => ?_, h.apart, fun v x hx => ?_, h.mm, h.big⟩
  · match j, hj with
    | 0, _ => rfl
    | 1, _ => rfl
    | 2, _ => rfl
    | 3, _ => rfl
    | 4, _ => rfl
    | 5, _ => rfl
  · obtain ⟨ns, h1, h2⟩ := h.rows v x hx
    refine ⟨ns, h1, hrow (h2.kept hg ?_)⟩
    rcases h.fapart v x hx with h3 | h3
    · exact .inl h3
    · exact .inr h3
  · exact hnew v x hx

/-- 'a.holding[v] = append(a.holding[v], x)', its four steps made -/
theorem AllocAt.hold_push (h : AllocAt w base p N low mo mh tg fv Lof fr tk Lh grp) {v : Verd} {g cap x : Nat} {w1 w2 w3 : World} (ht1 : w.mapTurned w1 mh) (hg : w1.grownBy w2 (evH ((aget Lh v).getD none)).ownBlock)
    (hl : (evH ((aget Lh v).getD none)).ownBlock = some g ∨ g = w1.heap.size)
    (ho : w2.ownsRow base 42 1 (.slice (some ⟨g, 0, none⟩) (((aget grp v).getD []).length + 1) cap) (((aget grp v).getD []) ++ [x]).length ((((aget grp v).getD []) ++ [x]).map ekN))
    (ht3 : w2.mapTurned w3 mh) (hm3 : MapL w3 Try.prog 57 mh evV evH (aput Lh v (some (g, ((aget grp v).getD []).length + 1, cap)))) :
    AllocAt w3 base p N low mo mh tg fv Lof fr tk (aput Lh v (some (g, ((aget grp v).getD []).length + 1, cap))) (aput grp v (((aget grp v).getD []) ++ [x])) := by
  have g1 := ht1.grown
  have g3 := ht3.grown
  obtain ⟨esh, clh, hbh, _⟩ := h.hold.block
  -- v's own block, if it has one, is a row of slots in w
  have hvb : ∀ b, (evH ((aget Lh v).getD none)).ownBlock = some b → ∃ hx, aget Lh v = some hx ∧ (evH hx).ownBlock = some b := fun b hb => by
    cases hx : aget Lh v with
    | none => rw [hx] at hb; simp [evH, Value.ownBlock] at hb
    | some y => rw [hx] at hb; exact ⟨y, rfl, by simpa using hb⟩
  have hB : ∀ b, b < w.heap.size → b ≠ mh → some b ≠ (evH ((aget Lh v).getD none)).ownBlock → w3.heap[b]? = w.heap[b]? := fun b h1 h2 h3 => by
    have e1 := g1.block b h1 (by simpa using h2)
    have e2 := hg.block b (Nat.lt_of_lt_of_le h1 g1.size) h3
    have e3 := g3.block b (Nat.lt_of_lt_of_le h1 (Nat.le_trans g1.size hg.size)) (by simpa using h2)
    rw [e3, e2, e1]
  have hno : ∀ b, (∀ cur, w.heap[b]? ≠ some (.cells cur 42 (0, 0))) → some b ≠ (evH ((aget Lh v).getD none)).ownBlock := fun b h2 e => by
    obtain ⟨y, hy, hyb⟩ := hvb b e.symm
    obtain ⟨ns, _, h3⟩ := h.rows v y hy
    obtain ⟨cur, hc⟩ := ownsRow_ne h3 hyb
    exact h2 cur hc
  have hp : w3.heap[p]? = w.heap[p]? := hB p h.blk.lt (h.blk.ne_map h.hold) (hno p (fun cur hc => by obtain ⟨c, hb, _⟩ := h.blk; rw [hb] at hc; simp at hc))
  have htg : w3.heap[tg]? = w.heap[tg]? := hB tg h.taken.lt (h.taken.ne_map h.hold) (hno tg (fun cur hc => by obtain ⟨c, hb, _⟩ := h.taken; rw [hb] at hc; simp at hc))
  have hmo : w3.heap[mo]? = w.heap[mo]? := hB mo h.of.lt h.mm (hno mo (fun cur hc => by obtain ⟨es, cl, hb, _⟩ := h.of.block; rw [hb] at hc; simp at hc))
  have hrowmh : ∀ {u : Value} {n : Nat} {xs : List Value}, w.ownsRow base 42 1 u n xs → ∀ b, u.ownBlock = some b → b ≠ mh := fun {u n xs} hu b hb e => by
    obtain ⟨cur, hc⟩ := ownsRow_ne hu hb
    rw [e, hbh] at hc
    simp at hc
  have hnewlt : ∀ b, b < w.heap.size → b ≠ w1.heap.size := fun b hb e => by have := g1.size; omega
  -- the new row, behind the store into the map
  have hnew : w3.ownsRow base 42 1 (evH (some (g, ((aget grp v).getD []).length + 1, cap))) (((aget grp v).getD []) ++ [x]).length ((((aget grp v).getD []) ++ [x]).map ekN) := by
    refine ownsRow_of_block ho (fun b hb => ?_)
    have hb' : b = g := (Option.some.inj hb).symm
    refine g3.block b (ho.lt b hb).2 ?_
    simp only [ne_eq, Option.some.injEq]
    rw [hb']
    rcases hl with h1 | h1
    · obtain ⟨y, hy, hyb⟩ := hvb g h1
      obtain ⟨ns, _, h3⟩ := h.rows v y hy
      exact hrowmh h3 g hyb
    · rw [h1]
      exact fun e => hnewlt mh h.hold.lt e.symm
  -- another row
  have hother : ∀ {u : Value} {n : Nat} {xs : List Value}, w.ownsRow base 42 1 u n xs → (u.ownBlock = none ∨ u.ownBlock ≠ (evH ((aget Lh v).getD none)).ownBlock) → w3.ownsRow base 42 1 u n xs := fun {u n xs} hu hne =>
    ownsRow_of_block hu (fun b hb => hB b (hu.lt b hb).2 (hrowmh hu b hb) (fun e => by
      rcases hne with h1 | h1
      · rw [h1] at hb; cases hb
      · exact h1 (by rw [hb, e])))
  have hap : ∀ v' y, aget Lh v' = some y → v' ≠ v → ((evH y).ownBlock = none ∨ (evH y).ownBlock ≠ (evH ((aget Lh v).getD none)).ownBlock) ∧ ((evH y).ownBlock = none ∨ (evH y).ownBlock ≠ some g) := fun v' y hy hne => by
    have a1 : (evH y).ownBlock = none ∨ (evH y).ownBlock ≠ (evH ((aget Lh v).getD none)).ownBlock := by
      cases hx : aget Lh v with
      | none =>
        cases hb : (evH y).ownBlock with
        | none => exact .inl rfl
        | some b => exact .inr (by simp [evH, Value.ownBlock])
      | some z =>
        rcases h.apart v' v y z hy hx hne with h1 | h1
        · exact .inl h1
        · exact .inr (by simpa using h1)
    refine ⟨a1, ?_⟩
    rcases a1 with h1 | h1
    · exact .inl h1
    · rcases hl with h2 | h2
      · exact .inr (by rw [← h2]; exact h1)
      · cases hb : (evH y).ownBlock with
        | none => exact .inl rfl
        | some b =>
          obtain ⟨ns, _, h3⟩ := h.rows v' y hy
          have := hnewlt b (h3.lt b hb).2
          exact .inr (fun e => by simp at e; omega)
  have hfree : fv.ownBlock = none ∨ fv.ownBlock ≠ (evH ((aget Lh v).getD none)).ownBlock := by
    cases hx : aget Lh v with
    | none =>
      cases hb : fv.ownBlock with
      | none => exact .inl rfl
      | some b => exact .inr (by simp [evH, Value.ownBlock])
    | some z =>
      rcases h.fapart v z hx with h1 | h1
      · cases hb : fv.ownBlock with
        | none => exact .inl rfl
        | some b => exact .inr (by simp [h1])
      · exact .inr (by simpa using h1.symm)
  refine ⟨h.blk.of_block hp, h.of.of_block hmo, hother h.free hfree, h.taken.of_block htg, hm3, ?_, fun v' y hy => ?_, fun v' v'' y z hy hz hne => ?_, fun v' y hy => ?_, h.mm, h.big⟩
  · rw [aput_keys, aput_keys, h.keys]
  · rw [aget_aput] at hy
    rw [aget_aput]
    split at hy
    · rename_i e
      cases hy
      exact ⟨_, if_pos e, hnew⟩
    · rename_i e
      obtain ⟨ns, h1, h2⟩ := h.rows v' y hy
      exact ⟨ns, by rw [if_neg e]; exact h1, hother h2 (hap v' y hy e).1⟩
  · rw [aget_aput] at hy hz
    split at hy
    · rename_i e
      cases hy
      rw [if_neg (fun e' => hne (e.trans e'.symm))] at hz
      rcases (hap v'' z hz (fun e' => hne (e.trans e'.symm))).2 with h1 | h1
      · exact .inr (by rw [h1]; simp [evH, Value.ownBlock])
      · exact .inr (fun e' => h1 (by rw [← e']; rfl))
    · rename_i e
      split at hz
      · cases hz
        rcases (hap v' y hy e).2 with h1 | h1
        · exact .inl h1
        · exact .inr (by simpa [evH, Value.ownBlock] using h1)
      · exact h.apart v' v'' y z hy hz hne
  · rw [aget_aput] at hy
    split at hy
    · cases hy
      refine .inr (fun e => ?_)
      have e' : fv.ownBlock = some g := by rw [← e]; rfl
      rcases hl with h1 | h1
      · rcases hfree with h2 | h2
        · rw [h2] at e'; cases e'
        · exact h2 (by rw [e', h1])
      · exact hnewlt g (h.free.lt g e').2 h1
    · exact h.fapart v' y hy
end
end Go.Proofs.Qxb6602988a
