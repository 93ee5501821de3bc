/-
  Maps as association lists, more: 'm[k] = f(m[k])' (mapEntry, entryStore) and ranging.
-/
import Derived.Test.Qxb6602988aMaps
import Derived.Maps.RangeRun
namespace Go.Proofs.Qxb6602988a
open Go.ChangeMaps Go.MapKept Go.RowKit
open Go.Maps (Keyed)
set_option linter.unusedSectionVars false
set_option linter.unusedSimpArgs false
set_option linter.unusedVariables false

section
variable {α β : Type} [DecidableEq α]
theorem aput_aput (L : List (α × β)) (a : α) (u v : β) : aput (aput L a u) a v = aput L a v := by
  induction L with
  | nil => simp [aput]
  | cons p r ih =>
    unfold aput
    by_cases hp : p.1 = a
    · simp [hp, aput]
    · simp [hp, aput, ih]

variable {P : Program} {k : TypeId} {w : World} {b : Nat} {ek : α → Value} {ev : β → Value} {L : List (α × β)}

/-- the entry at index j is turned to (ek a, ev u) -/
theorem MapL.modify {es : Array MapEntry} {clock : Nat} (h : MapL w P k b ek ev L) (hb : w.heap[b]? = some (.map es clock)) (hes : es.toList.map (fun e => (e.key, e.val)) = L.map (fun p => (ek p.1, ev p.2)))
    (hnb : (es.toList.map (·.born)).Nodup) (hlt : ∀ e ∈ es.toList, e.born < clock) {a : α} {u0 : β} {j : Nat} {e0 : MapEntry} (f2 : L[j]? = some (a, u0)) (f3 : es.toList[j]? = some e0) (u : β) (f : MapEntry → MapEntry) (hf : f e0 = { e0 with key := ek a, val := ev u }) :
    MapL (setBlock w b (.map (es.modify j f) clock)) P k b ek ev (aput L a u) := by
  have hset : (es.modify j f).toList = es.toList.set j { e0 with key := ek a, val := ev u } := by rw [Array.toList_modify, modify_eq_set _ _ _ _ f3, hf]
  refine ⟨⟨_, _, heap_setBlock_same hb _, ?_, ?_, ?_⟩, ?_, aput_nodup _ _ _ h.nodup⟩
  · rw [hset, aput_at L a u u0 f2 h.nodup, List.map_set, hes, List.map_set]
  · rw [hset, List.map_set]
    have : (es.toList.map (·.born)).set j e0.born = es.toList.map (·.born) := by
      apply List.ext_getElem?
      intro i
      rw [List.getElem?_set]
      by_cases hi : j = i
      · subst hi; simp [f3]; exact (List.getElem?_eq_some_iff.1 f3).1
      · simp [hi]
    rw [this]; exact hnb
  · intro e he
    rw [hset] at he
    rcases List.mem_or_eq_of_mem_set he with he | rfl
    · exact hlt e he
    · exact hlt e0 (List.mem_of_getElem? f3)
  · intro p hp
    rw [aput_at L a u u0 f2 h.nodup] at hp
    rcases List.mem_or_eq_of_mem_set hp with hp | rfl
    · exact h.keys p hp
    · exact h.keys (a, u0) (List.mem_of_getElem? f2)

theorem findIdx_born (es : Array MapEntry) (hnb : (es.toList.map (·.born)).Nodup) {j : Nat} {e0 : MapEntry} (f3 : es.toList[j]? = some e0) : es.findIdx? (fun e => (e.born : Int) == (e0.born : Int)) = some j := by
  rw [Array.findIdx?_eq_some_iff_getElem]
  have hj : j < es.size := by simpa using (List.getElem?_eq_some_iff.1 f3).1
  have ej : es[j] = e0 := by have := (List.getElem?_eq_some_iff.1 f3).2; simpa using this
  refine ⟨hj, by simp [ej], fun i hi => ?_⟩
  simp only [Bool.not_eq_true, beq_eq_false_iff_ne, ne_eq]
  intro e
  have e' : es[i].born = e0.born := by omega
  have := List.pairwise_iff_getElem.1 hnb i j (by simpa using (show i < es.size by omega)) (by simpa using hj) hi
  exact this (by simp [e', ej])

/-- 'm[k]' as the place of 'm[k] = append(m[k], x)': the element that is there (the zero value, laid now, where none was), and the way to store at it. -/
theorem MapL.entry (h : MapL w P k b ek ev L) (K : Keyed P k) (hinj : ∀ x y, ek x = ek y → x = y) {t e : TypeId} (ht : P.underlying t = some (.map k e)) {z : β} (hz : (zeroValue e).run P w = .ok (ev z) w) {a : α} {l : Lit} (hk : keyOf P k (ek a) = some l) :
    ∃ w1 st, (Instr.mapEntry t (.map (some b)) (ek a)).run P w = .ok (.tuple #[ev ((aget L a).getD z), .int .i64 st]) w1 ∧ w.mapTurned w1 b ∧ MapL w1 P k b ek ev (aput L a ((aget L a).getD z)) ∧
      ∀ w2 u, w2.heap[b]? = w1.heap[b]? → ∃ w3, (Instr.entryStore t (.map (some b)) (.int .i64 st) (ev u)).run P w2 = .ok () w3 ∧ w2.mapTurned w3 b ∧ MapL w3 P k b ek ev (aput L a u) := by
  obtain ⟨es, clock, hb, hes, hnb, hlt⟩ := h.block
  have store : ∀ (W1 : World) (L1 : List (α × β)) (es1 : Array MapEntry) (clock1 : Nat) (j : Nat) (e0 : MapEntry) (u0 : β), MapL W1 P k b ek ev L1 → W1.heap[b]? = some (.map es1 clock1) →
      es1.toList.map (fun e => (e.key, e.val)) = L1.map (fun p => (ek p.1, ev p.2)) → (es1.toList.map (·.born)).Nodup → (∀ e ∈ es1.toList, e.born < clock1) → L1[j]? = some (a, u0) → es1.toList[j]? = some e0 →
      ∀ w2 u, w2.heap[b]? = W1.heap[b]? → ∃ w3, (Instr.entryStore t (.map (some b)) (.int .i64 e0.born) (ev u)).run P w2 = .ok () w3 ∧ w2.mapTurned w3 b ∧ MapL w3 P k b ek ev (aput L1 a u) := by
    intro W1 L1 es1 clock1 j e0 u0 hM hB hE hN hC f2 f3 w2 u hw2
    have hb2 : w2.heap[b]? = some (.map es1 clock1) := hw2.trans hB
    have hfi := findIdx_born es1 hN f3
    have hkey : e0.key = ek a := by
      obtain ⟨p, hp, h1, _⟩ := pair_at hE f3
      rw [f2] at hp
      cases hp
      exact h1
    refine ⟨setBlock w2 b (.map (es1.modify j fun e => { e with val := ev u }) clock1), ?_, ⟨es1, clock1, _, _, hb2, rfl⟩, (hM.of_block hw2).modify hb2 hE hN hC f2 f3 u _ (by rw [hkey.symm])⟩
    simp [Instr.entryStore, MapKept.run_getObj_map hb2, asInt, asIntOf, hfi, MapKept.run_setObj_map _ hb2, Result.andThen, setBlock]
  rcases h.find K hinj hes hk with ⟨f1, f2⟩ | ⟨j, u0, e0, f1, f2, f3, f4, f5⟩
  · have hM1 : MapL (setBlock w b (.map (es.push ⟨ek a, ev z, clock⟩) (clock + 1))) P k b ek ev (aput L a z) := by
      obtain ⟨w', hr, hm, es0, c0, es', c', hb0, rfl⟩ := h.update K hinj ht hk z
      have hr2 : (Instr.mapUpdate t (.map (some b)) (ek a) (ev z)).run P w = .ok () (setBlock w b (.map (es.push ⟨ek a, ev z, clock⟩) (clock + 1))) := by
        simp [Instr.mapUpdate, run_underlying ht, MapKept.run_getObj_map hb, K.check w false hk, f1, MapKept.run_setObj_map _ hb, Result.andThen, setBlock]
      rw [hr] at hr2
      simp only [Result.ok.injEq, true_and] at hr2
      rw [hr2] at hm
      exact hm
    have hget : aget L a = none := (aget_none_iff L a).2 f2
    refine ⟨setBlock w b (.map (es.push ⟨ek a, ev z, clock⟩) (clock + 1)), clock, ?_, ⟨es, clock, _, _, hb, rfl⟩, ?_, ?_⟩
    · rw [hget]
      simp [Instr.mapEntry, run_underlying ht, MapKept.run_getObj_map hb, K.check w false hk, f1, hz, MapKept.run_setObj_map _ hb, Result.andThen, setBlock, goInt]
    · rw [hget]; exact hM1
    · intro w2 u hw2
      obtain ⟨es1, c1, hb1, hE1, hN1, hC1⟩ := hM1.block
      have : es1 = es.push ⟨ek a, ev z, clock⟩ ∧ c1 = clock + 1 := by
        rw [heap_setBlock_same hb] at hb1
        cases hb1
        exact ⟨rfl, rfl⟩
      obtain ⟨rfl, rfl⟩ := this
      have hlen : es.size = L.length := by have := congrArg List.length hes; simpa using this
      have := store _ _ _ _ es.size ⟨ek a, ev z, clock⟩ z hM1 hb1 hE1 hN1 hC1 (by rw [aput_of_none L a z f2, hlen]; simp) (by simp) w2 u hw2
      rw [aput_aput] at this
      exact this
  · have hj : es[j]? = some e0 := by simpa using f3
    have hget : aget L a = some u0 := aget_at L a u0 f2 h.nodup
    have hM1 := h.modify hb hes hnb hlt f2 f3 u0 (fun e' => { e' with key := ek a }) (by rw [← f5])
    refine ⟨setBlock w b (.map (es.modify j (fun e' => { e' with key := ek a })) clock), e0.born, ?_, ⟨es, clock, _, _, hb, rfl⟩, ?_, ?_⟩
    · rw [hget]
      simp [Instr.mapEntry, run_underlying ht, MapKept.run_getObj_map hb, K.check w false hk, f1, hj, f4, K.stays w hk, MapKept.run_setObj_map _ hb, Result.andThen, setBlock, goInt]
    · rw [hget]; exact hM1
    · intro w2 u hw2
      obtain ⟨es1, c1, hb1, hE1, hN1, hC1⟩ := hM1.block
      have : es1 = es.modify j (fun e' => { e' with key := ek a }) ∧ c1 = clock := by
        rw [heap_setBlock_same hb] at hb1
        cases hb1
        exact ⟨rfl, rfl⟩
      obtain ⟨rfl, rfl⟩ := this
      have hjl := (List.getElem?_eq_some_iff.1 f3).1
      have g3 : (es.modify j (fun e' => { e' with key := ek a })).toList[j]? = some { e0 with key := ek a } := by
        rw [Array.toList_modify, modify_eq_set _ _ _ _ f3]
        rw [List.getElem?_set, if_pos rfl, if_pos hjl]
      have := store _ _ _ _ j { e0 with key := ek a } u0 hM1 hb1 hE1 hN1 hC1 (by rw [aput_at L a u0 u0 f2 h.nodup, List.getElem?_set]; simp; exact (List.getElem?_eq_some_iff.1 f2).1) g3 w2 u hw2
      rw [aput_aput] at this
      exact this

/-! ### ranging over a map that stands -/
/-- Block r is an iterator over the map in block b; 'vis': which keys have come out. -/
structure RangeL (w : World) (P : Program) (k : TypeId) (r b : Nat) (ek : α → Value) (ev : β → Value) (L : List (α × β)) (vis : α → Bool) : Prop where
  map : MapL w P k b ek ev L
  it : ∃ es clock since seen c0, w.heap[b]? = some (.map es clock) ∧ es.toList.map (fun e => (e.key, e.val)) = L.map (fun p => (ek p.1, ev p.2)) ∧ (es.toList.map (·.born)).Nodup ∧ (∀ e ∈ es.toList, e.born < since) ∧ since ≤ c0 ∧ since ≤ clock ∧
    w.heap[r]? = some (.mapIter (some b) since seen c0) ∧ ∀ (j : Nat) (e : MapEntry) (p : α × β), es.toList[j]? = some e → L[j]? = some p → seen.contains e.born = vis p.1

theorem RangeL.of_blocks {w' : World} {r : Nat} {vis : α → Bool} (h : RangeL w P k r b ek ev L vis) (hb : w'.heap[b]? = w.heap[b]?) (hr : w'.heap[r]? = w.heap[r]?) : RangeL w' P k r b ek ev L vis := by
  obtain ⟨hm, es, clock, since, seen, c0, h1, h2, h3, h4, h5, h5', h6, h7⟩ := h
  exact ⟨hm.of_block hb, es, clock, since, seen, c0, hb.trans h1, h2, h3, h4, h5, h5', hr.trans h6, h7⟩
theorem RangeL.ne {r : Nat} {vis : α → Bool} (h : RangeL w P k r b ek ev L vis) : r ≠ b := by
  obtain ⟨hm, es, clock, since, seen, c0, h1, h2, h3, h4, h5, h5', h6, h7⟩ := h
  intro e
  rw [e, h1] at h6
  simp at h6
theorem RangeL.lt {r : Nat} {vis : α → Bool} (h : RangeL w P k r b ek ev L vis) : r < w.heap.size := by
  obtain ⟨hm, es, clock, since, seen, c0, h1, h2, h3, h4, h5, h5', h6, h7⟩ := h
  exact (Array.getElem?_eq_some_iff.1 h6).1

/-- 'range m' -/
theorem MapL.range (h : MapL w P k b ek ev L) {t e : TypeId} (ht : P.underlying t = some (.map k e)) :
    ∃ o, (Instr.range t (.map (some b))).run P w = .ok (.pointer (some ⟨w.heap.size, 0, none⟩)) (w.alloc o) ∧ RangeL (w.alloc o) P k w.heap.size b ek ev L (fun _ => false) := by
  obtain ⟨es, clock, hb, hes, hnb, hlt⟩ := h.block
  refine ⟨.mapIter (some b) clock #[] clock, ?_, h.alloc _, es, clock, clock, #[], clock, (Below.heap_alloc _ _ _ h.lt).trans hb, hes, hnb, hlt, Nat.le_refl _, Nat.le_refl _, (MapKept.heap_alloc w _).1, fun _ _ _ _ _ => by simp⟩
  simp [Instr.range, run_underlying ht, MapKept.run_getObj_map hb, newObj, Result.andThen]
  rfl

/-- w1 is w but for block r -/
structure But (w w1 : World) (r : Nat) : Prop where
  os : w1.os = w.os
  tape : w1.tape = w.tape
  output : w1.output = w.output
  size : w1.heap.size = w.heap.size
  block : ∀ i, i ≠ r → w1.heap[i]? = w.heap[i]?

/-- one step of the range -/
theorem RangeL.next {r : Nat} {vis : α → Bool} (h : RangeL w P k r b ek ev L vis) (ty : TypeId) :
    ((∀ p ∈ L, vis p.1 = true) ∧ (Instr.next (.pointer (some ⟨r, 0, none⟩)) false ty).run P w = .ok (.tuple #[.bool false]) w) ∨
    ∃ p ∈ L, vis p.1 = false ∧ ∃ w1, (Instr.next (.pointer (some ⟨r, 0, none⟩)) false ty).run P w = .ok (.tuple #[.bool true, ek p.1, ev p.2]) w1 ∧
      (Instr.entry (.pointer (some ⟨r, 0, none⟩))).run P w1 = .ok (.tuple #[ek p.1, ev p.2]) w1 ∧ RangeL w1 P k r b ek ev L (fun x => decide (x = p.1) || vis x) ∧ But w w1 r := by
  have hne := h.ne
  obtain ⟨hm, es, clock, since, seen, c0, h1, h2, h3, h4, h5, h5', h6, h7⟩ := h
  rcases run_next_at (P := P) w ty r b since c0 seen es clock h6 h1 h4 h5 with ⟨hz, hr⟩ | ⟨e, he, w1, hw1, hr⟩
  · refine .inl ⟨fun p hp => ?_, hr⟩
    obtain ⟨j, hj⟩ := List.getElem?_of_mem hp
    have hlen : es.toList.length = L.length := by have := congrArg List.length h2; simpa using this
    have hjl : j < es.toList.length := by rw [hlen]; exact (List.getElem?_eq_some_iff.1 hj).1
    have hej : es.toList[j]? = some es.toList[j] := List.getElem?_eq_getElem hjl
    rw [← h7 j _ p hej hj]
    cases hc : seen.contains es.toList[j].born with
    | true => rfl
    | false =>
      exfalso
      have : es.toList[j] ∈ leftOf es seen := by
        unfold leftOf
        rw [Array.mem_filter]
        exact ⟨by simp, by rw [hc]; rfl⟩
      have := Array.size_pos_of_mem this
      omega
  · have he' : e ∈ es.toList ∧ seen.contains e.born = false := by
      unfold leftOf at he
      simp at he
      exact ⟨by simpa using he.1, by simpa using he.2⟩
    obtain ⟨j, hj⟩ := List.getElem?_of_mem he'.1
    obtain ⟨p, hp, ek1, ev1⟩ := pair_at h2 hj
    have hw1' : ∀ i : Nat, w1.heap[i]? = w.heap[i]? := fun i => by rcases hw1 with h | h <;> rw [h] <;> rfl
    have hb1 : (setBlock w1 r (.mapIter (some b) since (seen.push e.born) clock)).heap[b]? = w.heap[b]? := by
      have : (setBlock w1 r (.mapIter (some b) since (seen.push e.born) clock)).heap[b]? = w1.heap[b]? := by
        simp [setBlock, Array.getElem?_setIfInBounds, hne]
      rw [this, hw1']
    have hrl : r < w1.heap.size := by
      have := hw1' r
      rw [h6] at this
      exact (Array.getElem?_eq_some_iff.1 this).1
    have hr1 : (setBlock w1 r (.mapIter (some b) since (seen.push e.born) clock)).heap[r]? = some (.mapIter (some b) since (seen.push e.born) clock) := by
      simp [setBlock, Array.getElem?_setIfInBounds, hrl]
    refine .inr ⟨p, List.mem_of_getElem? hp, by rw [← h7 j e p hj hp]; exact he'.2, _, by rw [← ek1, ← ev1]; exact hr, ?_, ⟨hm.of_block hb1, es, clock, since, seen.push e.born, clock, hb1.trans h1, h2, h3, h4, h5', h5', hr1, ?_⟩, ?_⟩
    · rw [← ek1, ← ev1]
      exact run_entry_at _ r b since seen es clock e hr1 (hb1.trans h1) he'.1 h3
    · intro j' e2 p' hj' hp'
      rw [Array.contains_push, h7 j' e2 p' hj' hp']
      by_cases hjj : j' = j
      · subst hjj
        rw [hj] at hj'
        rw [hp] at hp'
        cases hj'
        cases hp'
        simp
      · have a1 : (e2.born == e.born) = false := by
          simp only [beq_eq_false_iff_ne, ne_eq]
          intro e3
          have i1 := (List.getElem?_eq_some_iff.1 hj').1
          have i2 := (List.getElem?_eq_some_iff.1 hj).1
          have v1 := (List.getElem?_eq_some_iff.1 hj').2
          have v2 := (List.getElem?_eq_some_iff.1 hj).2
          rcases Nat.lt_or_gt_of_ne hjj with hlt | hlt
          · exact List.pairwise_iff_getElem.1 h3 j' j (by simpa using i1) (by simpa using i2) hlt (by simp only [List.getElem_map, v1, v2, e3])
          · exact List.pairwise_iff_getElem.1 h3 j j' (by simpa using i2) (by simpa using i1) hlt (by simp only [List.getElem_map, v1, v2, e3])
        have a2 : decide (p'.1 = p.1) = false := by
          apply decide_eq_false
          intro e3
          have i1 := (List.getElem?_eq_some_iff.1 hp').1
          have i2 := (List.getElem?_eq_some_iff.1 hp).1
          have v1 := (List.getElem?_eq_some_iff.1 hp').2
          have v2 := (List.getElem?_eq_some_iff.1 hp).2
          rcases Nat.lt_or_gt_of_ne hjj with hlt | hlt
          · exact List.pairwise_iff_getElem.1 hm.nodup j' j (by simpa using i1) (by simpa using i2) hlt (by simp only [List.getElem_map, v1, v2, e3])
          · exact List.pairwise_iff_getElem.1 hm.nodup j j' (by simpa using i2) (by simpa using i1) hlt (by simp only [List.getElem_map, v1, v2, e3])
        rw [a1, a2]; simp
    · have hs : w1.heap.size = w.heap.size := by rcases hw1 with rfl | rfl <;> rfl
      refine ⟨?_, ?_, ?_, by simp [setBlock, hs], fun i hi => ?_⟩
      · rcases hw1 with rfl | rfl <;> rfl
      · rcases hw1 with rfl | rfl <;> rfl
      · rcases hw1 with rfl | rfl <;> rfl
      · rw [← hw1' i]
        simp [setBlock, Array.getElem?_setIfInBounds]
        intro e
        exact absurd e.symm hi
end
end Go.Proofs.Qxb6602988a
