/-
  Maps that a call itself has made, as plain association lists in the order of first storing: 'w.mapL P k b ek ev L'. Over the kit's 'Keyed'.
-/
import Derived.Maps.OwnSet
import Derived.WalkKit
namespace Go.Proofs.Qxb6602988a
open Go.ChangeMaps Go.MapKept Go.RowKit
open Go.Maps (Keyed)
set_option linter.unusedSectionVars false
set_option linter.unusedSimpArgs false
set_option linter.unusedVariables false

/-! ### the plain association list -/
section
variable {α β : Type} [DecidableEq α]
def aget : List (α × β) → α → Option β
  | [], _ => none
  | p :: r, a => if p.1 = a then some p.2 else aget r a
def aput : List (α × β) → α → β → List (α × β)
  | [], a, v => [(a, v)]
  | p :: r, a, v => if p.1 = a then (a, v) :: r else p :: aput r a v
theorem aget_aput_same (L : List (α × β)) (a : α) (v : β) : aget (aput L a v) a = some v := by
  induction L with
  | nil => simp [aput, aget]
  | cons p r ih =>
    unfold aput
    split
    · simp [aget]
    · simp [aget, *]
theorem aget_aput_other (L : List (α × β)) {a c : α} (v : β) (h : c ≠ a) : aget (aput L a v) c = aget L c := by
  induction L with
  | nil => simp [aput, aget]; exact fun e => absurd e.symm h
  | cons p r ih =>
    unfold aput
    split
    · rename_i hp
      have hac : a ≠ c := fun e => h e.symm
      simp [aget, hp, hac]
    · simp only [aget, ih]
theorem aget_aput (L : List (α × β)) (a c : α) (v : β) : aget (aput L a v) c = if c = a then some v else aget L c := by
  split
  · rename_i h; rw [h]; exact aget_aput_same L a v
  · rename_i h; exact aget_aput_other L v h
theorem aget_none_iff (L : List (α × β)) (a : α) : aget L a = none ↔ ∀ p ∈ L, p.1 ≠ a := by
  induction L with
  | nil => simp [aget]
  | cons p r ih =>
    unfold aget
    split
    · rename_i hp; simp [hp]
    · rename_i hp; simp [ih, hp]
theorem aput_of_none (L : List (α × β)) (a : α) (v : β) (h : ∀ p ∈ L, p.1 ≠ a) : aput L a v = L ++ [(a, v)] := by
  induction L with
  | nil => rfl
  | cons p r ih =>
    unfold aput
    rw [if_neg (h p (by simp)), ih (fun q hq => h q (by simp [hq]))]
    rfl
theorem aput_at (L : List (α × β)) (a : α) (v u : β) {j : Nat} (hj : L[j]? = some (a, u)) (hn : (L.map Prod.fst).Nodup) : aput L a v = L.set j (a, v) := by
  induction L generalizing j with
  | nil => simp at hj
  | cons p r ih =>
    unfold aput
    cases j with
    | zero => simp at hj; subst hj; simp
    | succ j =>
      simp at hj
      simp only [List.map_cons, List.nodup_cons, List.mem_map] at hn
      rw [if_neg (fun e => hn.1 ⟨(a, u), List.mem_of_getElem? hj, e.symm⟩), ih hj hn.2]
      rfl
theorem aget_at (L : List (α × β)) (a : α) (u : β) {j : Nat} (hj : L[j]? = some (a, u)) (hn : (L.map Prod.fst).Nodup) : aget L a = some u := by
  induction L generalizing j with
  | nil => simp at hj
  | cons p r ih =>
    unfold aget
    cases j with
    | zero => simp at hj; subst hj; simp
    | succ j =>
      simp at hj
      simp only [List.map_cons, List.nodup_cons, List.mem_map] at hn
      rw [if_neg (fun e => hn.1 ⟨(a, u), List.mem_of_getElem? hj, e.symm⟩), ih hj hn.2]
theorem mem_of_aget (L : List (α × β)) {a : α} {u : β} (h : aget L a = some u) : (a, u) ∈ L := by
  induction L with
  | nil => simp [aget] at h
  | cons p r ih =>
    unfold aget at h
    split at h
    · rename_i hp; cases h; rw [← hp]; simp
    · exact List.mem_cons_of_mem _ (ih h)
theorem aget_of_mem (L : List (α × β)) {a : α} {u : β} (h : (a, u) ∈ L) (hn : (L.map Prod.fst).Nodup) : aget L a = some u := by
  obtain ⟨j, hj⟩ := List.getElem?_of_mem h
  exact aget_at L a u hj hn
theorem aput_keys (L : List (α × β)) (a : α) (v : β) : (aput L a v).map Prod.fst = if a ∈ L.map Prod.fst then L.map Prod.fst else L.map Prod.fst ++ [a] := by
  induction L with
  | nil => simp [aput]
  | cons p r ih =>
    unfold aput
    by_cases hp : p.1 = a
    · simp [hp]
    · rw [if_neg hp, List.map_cons, ih]
      have : a ≠ p.1 := fun e => hp e.symm
      by_cases hm : a ∈ r.map Prod.fst
      · rw [if_pos hm, if_pos (by simpa [this] using hm)]; simp
      · rw [if_neg hm, if_neg (by simpa [this] using hm)]; simp
theorem aput_nodup (L : List (α × β)) (a : α) (v : β) (h : (L.map Prod.fst).Nodup) : ((aput L a v).map Prod.fst).Nodup := by
  rw [aput_keys]
  split
  · exact h
  · rename_i hm
    rw [List.nodup_append]
    exact ⟨h, by simp, fun x hx y hy => by simp at hy; subst hy; exact fun e => hm (e ▸ hx)⟩
theorem aput_length (L : List (α × β)) (a : α) (v : β) : (aput L a v).length = if (aget L a).isSome then L.length else L.length + 1 := by
  induction L with
  | nil => simp [aput, aget]
  | cons p r ih =>
    unfold aput aget
    split
    · simp
    · simp only [List.length_cons, ih]
      split <;> rfl
end

/-! ### the block -/
section
variable {α β : Type} [DecidableEq α] {P : Program} {k : TypeId}
/-- Block b of w is a map whose entries, in the order of their first storing, are L. -/
structure MapL (w : World) (P : Program) (k : TypeId) (b : Nat) (ek : α → Value) (ev : β → Value) (L : List (α × β)) : Prop where
  block : ∃ es clock, w.heap[b]? = some (.map es clock) ∧ es.toList.map (fun e => (e.key, e.val)) = L.map (fun p => (ek p.1, ev p.2)) ∧
    (es.toList.map (·.born)).Nodup ∧ ∀ e ∈ es.toList, e.born < clock
  keys : ∀ p ∈ L, ∃ l, keyOf P k (ek p.1) = some l
  nodup : (L.map Prod.fst).Nodup

theorem MapL.lt {w : World} {b : Nat} {ek : α → Value} {ev : β → Value} {L : List (α × β)} (h : MapL w P k b ek ev L) : b < w.heap.size := by
  obtain ⟨⟨es, clock, hb, _⟩, _, _⟩ := h
  exact (Array.getElem?_eq_some_iff.1 hb).1
theorem MapL.of_block {w w' : World} {b : Nat} {ek : α → Value} {ev : β → Value} {L : List (α × β)} (h : MapL w P k b ek ev L) (hb : w'.heap[b]? = w.heap[b]?) : MapL w' P k b ek ev L := by
  obtain ⟨⟨es, clock, hb0, r⟩, h2, h3⟩ := h
  exact ⟨⟨es, clock, hb.trans hb0, r⟩, h2, h3⟩
theorem MapL.below {w w' : World} {b B : Nat} {ek : α → Value} {ev : β → Value} {L : List (α × β)} (h : MapL w P k b ek ev L) (hw : Below B w w') (hb : b < B) : MapL w' P k b ek ev L :=
  h.of_block (hw.block b hb)
theorem MapL.drew {w : World} {b : Nat} {ek : α → Value} {ev : β → Value} {L : List (α × β)} (h : MapL w P k b ek ev L) : MapL w.drew P k b ek ev L := h.of_block rfl
theorem MapL.alloc {w : World} {b : Nat} {ek : α → Value} {ev : β → Value} {L : List (α × β)} (h : MapL w P k b ek ev L) (o : Obj) : MapL (w.alloc o) P k b ek ev L := h.of_block (Below.heap_alloc _ _ _ h.lt)
theorem MapL.setCell {w : World} {b : Nat} {ek : α → Value} {ev : β → Value} {L : List (α × β)} (h : MapL w P k b ek ev L) (a : Addr) (u : Value) (hne : b ≠ a.block) : MapL (w.setCell a u) P k b ek ev L := h.of_block (Below.heap_setCell _ _ _ _ hne)
theorem MapL_made (w : World) (P : Program) (k : TypeId) (ek : α → Value) (ev : β → Value) : MapL (w.alloc (.map #[] 0)) P k w.heap.size ek ev ([] : List (α × β)) :=
  ⟨⟨#[], 0, (MapKept.heap_alloc w _).1, by simp, by simp, by simp⟩, by simp, by simp⟩

theorem pair_at {w : List MapEntry} {ek : α → Value} {ev : β → Value} {L : List (α × β)} (h : w.map (fun e => (e.key, e.val)) = L.map (fun p => (ek p.1, ev p.2))) {j : Nat} {e : MapEntry} (hj : w[j]? = some e) :
    ∃ p, L[j]? = some p ∧ e.key = ek p.1 ∧ e.val = ev p.2 := by
  have := congrArg (fun l => l[j]?) h
  simp only [List.getElem?_map, hj, Option.map_some] at this
  cases hl : L[j]? with
  | none => simp [hl] at this
  | some p => simp [hl] at this; exact ⟨p, rfl, this.1, this.2⟩
theorem entry_of {w : List MapEntry} {ek : α → Value} {ev : β → Value} {L : List (α × β)} (h : w.map (fun e => (e.key, e.val)) = L.map (fun p => (ek p.1, ev p.2))) {e : MapEntry} (he : e ∈ w) :
    ∃ p ∈ L, e.key = ek p.1 ∧ e.val = ev p.2 := by
  obtain ⟨j, hj⟩ := List.getElem?_of_mem he
  obtain ⟨p, hp, h1, h2⟩ := pair_at h hj
  exact ⟨p, List.mem_of_getElem? hp, h1, h2⟩

variable {w : World} {b : Nat} {ek : α → Value} {ev : β → Value} {L : List (α × β)}

/-- what findKey answers -/
theorem MapL.find (h : MapL w P k b ek ev L) (K : Keyed P k) (hinj : ∀ x y, ek x = ek y → x = y) {es : Array MapEntry} (hes : es.toList.map (fun e => (e.key, e.val)) = L.map (fun p => (ek p.1, ev p.2)))
    {a : α} {l : Lit} (hk : keyOf P k (ek a) = some l) :
    ((Instr.findKey k (ek a) es.toList).run P w = .ok none w ∧ (∀ p ∈ L, p.1 ≠ a)) ∨
    ∃ j u e, (Instr.findKey k (ek a) es.toList).run P w = .ok (some (j, ev u)) w ∧ L[j]? = some (a, u) ∧ es.toList[j]? = some e ∧ e.key = ek a ∧ e.val = ev u := by
  have hkeys : ∀ e ∈ es.toList, ∃ l, keyOf P k e.key = some l := fun e he => by
    obtain ⟨p, hp, h1, _⟩ := entry_of hes he
    rw [h1]; exact h.keys p hp
  rcases K.find w hk es.toList hkeys with ⟨f1, f2⟩ | ⟨j, e, f1, f2, f3⟩
  · refine .inl ⟨f1, fun p hp e => ?_⟩
    have : (ek p.1, ev p.2) ∈ es.toList.map (fun e => (e.key, e.val)) := by rw [hes]; exact List.mem_map.2 ⟨p, hp, rfl⟩
    obtain ⟨x, hx, hxe⟩ := List.mem_map.1 this
    simp only [Prod.mk.injEq] at hxe
    exact f2 x hx (by rw [hxe.1, e])
  · obtain ⟨p, hp, h1, h2⟩ := pair_at hes f2
    have hpa : p.1 = a := hinj _ _ (h1.symm.trans f3)
    refine .inr ⟨j, p.2, e, by rw [← h2]; exact f1, ?_, f2, f3, h2⟩
    rw [hp, ← hpa]

theorem MapL.lookup (h : MapL w P k b ek ev L) (K : Keyed P k) (hinj : ∀ x y, ek x = ek y → x = y) {t e : TypeId} (ht : P.underlying t = some (.map k e)) {z : β} (hz : (zeroValue e).run P w = .ok (ev z) w)
    {a : α} {l : Lit} (hk : keyOf P k (ek a) = some l) (c : Bool) :
    (Instr.lookup t (.map (some b)) (ek a) c).run P w = .ok (if c then .tuple #[ev ((aget L a).getD z), .bool (aget L a).isSome] else ev ((aget L a).getD z)) w := by
  obtain ⟨es, clock, hb, hes, _⟩ := h.block
  rcases h.find K hinj hes hk with ⟨f1, f2⟩ | ⟨j, u, e0, f1, f2, _⟩
  · rw [(aget_none_iff L a).2 f2]
    simp [Instr.lookup, run_underlying ht, MapKept.run_getObj_map hb, K.check w _ hk, f1, hz, Result.andThen]
  · rw [aget_at L a u f2 h.nodup]
    simp [Instr.lookup, run_underlying ht, MapKept.run_getObj_map hb, K.check w _ hk, f1, Result.andThen]

theorem MapL.len (h : MapL w P k b ek ev L) {t e : TypeId} (ht : P.underlying t = some (.map k e)) (ty : TypeId) : (Builtin.len_ #[t] ty #[.map (some b)]).run P w = .ok (.int .i64 L.length) w := by
  obtain ⟨es, clock, hb, hes, _⟩ := h.block
  have : es.size = L.length := by have := congrArg List.length hes; simpa using this
  simp [Builtin.len_, run_underlying ht, MapKept.run_getObj_map hb, goInt, Result.andThen, this]

/-- w' is w but for block b, which is a map in both -/
theorem MapL.update (h : MapL w P k b ek ev L) (K : Keyed P k) (hinj : ∀ x y, ek x = ek y → x = y) {t e : TypeId} (ht : P.underlying t = some (.map k e)) {a : α} {l : Lit} (hk : keyOf P k (ek a) = some l) (u : β) :
    ∃ w', (Instr.mapUpdate t (.map (some b)) (ek a) (ev u)).run P w = .ok () w' ∧ MapL w' P k b ek ev (aput L a u) ∧ w.mapTurned w' b := by
  obtain ⟨es, clock, hb, hes, hnb, hlt⟩ := h.block
  rcases h.find K hinj hes hk with ⟨f1, f2⟩ | ⟨j, u0, e0, f1, f2, f3, f4, f5⟩
  · refine ⟨setBlock w b (.map (es.push ⟨ek a, ev u, clock⟩) (clock + 1)), ?_, ?_, ⟨es, clock, _, _, hb, rfl⟩⟩
    · simp [Instr.mapUpdate, run_underlying ht, MapKept.run_getObj_map hb, K.check w false hk, f1, MapKept.run_setObj_map _ hb, Result.andThen, setBlock]
    · refine ⟨⟨_, _, heap_setBlock_same hb _, ?_, ?_, ?_⟩, ?_, aput_nodup _ _ _ h.nodup⟩
      · rw [aput_of_none L a u f2]; simp [hes]
      · simp only [Array.toList_push, List.map_append, List.map_cons, List.map_nil, List.nodup_append]
        refine ⟨hnb, by simp, fun x hx y hy => ?_⟩
        simp at hy; subst hy
        obtain ⟨e, he, rfl⟩ := List.mem_map.1 hx
        exact Nat.ne_of_lt (hlt e he)
      · intro e he
        simp only [Array.toList_push, List.mem_append, List.mem_singleton] at he
        rcases he with he | rfl
        · exact Nat.lt_succ_of_lt (hlt e he)
        · exact Nat.lt_succ_self _
      · rw [aput_of_none L a u f2]
        intro p hp
        rcases List.mem_append.1 hp with hp | hp
        · exact h.keys p hp
        · simp at hp; subst hp; exact ⟨l, hk⟩
  · have hj : es[j]? = some e0 := by simpa using f3
    have hset : (es.modify j (fun e' => { e' with key := ek a, val := ev u })).toList = es.toList.set j { e0 with key := ek a, val := ev u } := by rw [Array.toList_modify, modify_eq_set _ _ _ _ f3]
    refine ⟨setBlock w b (.map (es.modify j (fun e' => { e' with key := ek a, val := ev u })) clock), ?_, ?_, ⟨es, clock, _, _, hb, rfl⟩⟩
    · simp [Instr.mapUpdate, run_underlying ht, MapKept.run_getObj_map hb, K.check w false hk, f1, hj, f4, K.stays w hk, MapKept.run_setObj_map _ hb, Result.andThen, setBlock]
    · refine ⟨⟨_, _, heap_setBlock_same hb _, ?_, ?_, ?_⟩, ?_, aput_nodup _ _ _ h.nodup⟩
      · rw [hset, aput_at L a u u0 f2 h.nodup, List.map_set, hes, List.map_set]
      · rw [hset, List.map_set]
        have : (es.toList.map (·.born)).set j e0.born = es.toList.map (·.born) := by
          apply List.ext_getElem?
          intro i
          rw [List.getElem?_set]
          by_cases hi : j = i
          · subst hi; simp [f3]; exact (List.getElem?_eq_some_iff.1 f3).1
          · simp [hi]
        rw [this]; exact hnb
      · intro e he
        rw [hset] at he
        rcases List.mem_or_eq_of_mem_set he with he | rfl
        · exact hlt e he
        · exact hlt e0 (List.mem_of_getElem? f3)
      · intro p hp
        rw [aput_at L a u u0 f2 h.nodup] at hp
        rcases List.mem_or_eq_of_mem_set hp with hp | rfl
        · exact h.keys p hp
        · exact ⟨l, hk⟩
end
end Go.Proofs.Qxb6602988a
