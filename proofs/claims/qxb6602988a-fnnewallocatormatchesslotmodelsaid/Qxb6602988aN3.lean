import Derived.Test.Qxb6602988aN1
import Derived.Test.Qxb6602988aN2
import Derived.Laws.OwnMore
namespace Go.Proofs.Qxb6602988a
open Go.RowKit Go.WideShapes Go.ChangeShapes
set_option linter.unusedVariables false
set_option linter.unusedSimpArgs false

theorem make53 (w : World) (n : Int) : (Instr.makeMap 53 (some (.int .i64 n))).run Try.prog w = .ok (.map (some w.heap.size)) (w.alloc (.map #[] 0)) := by kernel_rfl
theorem make60 (w : World) (n : Int) : (Instr.makeMap 60 (some (.int .i64 n))).run Try.prog w = .ok (.map (some w.heap.size)) (w.alloc (.map #[] 0)) := by kernel_rfl
def evB (b : Bool) : Value := .bool b
def evI (n : Nat) : Value := .int .i64 n
theorem zero4 (w : World) : (zeroValue 4).run Try.prog w = .ok (evB false) w := by kernel_rfl
theorem zero3 (w : World) : (zeroValue 3).run Try.prog w = .ok (evI 0) w := by kernel_rfl
theorem vcell_even (f : Nat → Int × Int) (s : Nat) : vcell f (s * 2) = .int .u8 (f s).1 := by simp [vcell]
theorem vcell_odd (f : Nat → Int × Int) (s : Nat) : vcell f (s * 2 + 1) = .int .u16 (f s).2 := by
  unfold vcell
  rw [if_neg (by omega), show (s * 2 + 1) / 2 = s by omega]
theorem Try.info51 : (Try.prog.info? 51).map (fun i => (i.zero, i.size, i.bytes)) = some (some (.slice none 0 0), 1, 24) := by kernel_rfl

def vcs : List Verd → List Value
  | [] => []
  | v :: r => .int .u8 v.1 :: .int .u16 v.2 :: vcs r
theorem vcs_append (a b : List Verd) : vcs (a ++ b) = vcs a ++ vcs b := by
  induction a with
  | nil => rfl
  | cons x r ih => simp [vcs, ih]
theorem vcs_length (a : List Verd) : (vcs a).length = a.length * 2 := by
  induction a with
  | nil => rfl
  | cons x r ih => simp [vcs, ih]; omega
theorem vcs_get (a : List Verd) (i : Nat) (v : Verd) (h : a[i]? = some v) : (vcs a)[i * 2]? = some (.int .u8 v.1) ∧ (vcs a)[i * 2 + 1]? = some (.int .u16 v.2) := by
  induction a generalizing i with
  | nil => simp at h
  | cons x r ih =>
    cases i with
    | zero => simp at h; subst h; simp [vcs]
    | succ i =>
      have := ih i (by simpa using h)
      rw [show (i + 1) * 2 = i * 2 + 1 + 1 by omega]
      simpa [vcs] using this
theorem idxOf_set {β : Type} (L : List (Verd × β)) (i : Nat) (v : Verd) (u u0 : β) (h : L[i]? = some (v, u0)) (x : Verd) : idxOf (L.set i (v, u)) x = idxOf L x := by
  induction L generalizing i with
  | nil => simp at h
  | cons p r ih =>
    cases i with
    | zero => simp at h; subst h; simp [idxOf]
    | succ i =>
      have := ih i (by simpa using h)
      simp only [List.set_cons_succ, idxOf, this]
theorem keys_set {β : Type} (L : List (Verd × β)) (i : Nat) (v : Verd) (u u0 : β) (h : L[i]? = some (v, u0)) : (L.set i (v, u)).map Prod.fst = L.map Prod.fst := by
  induction L generalizing i with
  | nil => simp at h
  | cons p r ih =>
    cases i with
    | zero => simp at h; subst h; simp
    | succ i => simpa using ih i (by simpa using h)

structure HoldAt (w : World) (B im : Nat) (hv hs : Value) (Li : List (Verd × Nat)) (R : List (Option (Nat × Nat × Nat))) (grp : List (Verd × List Nat)) : Prop where
  idx : MapL w Try.prog 57 im evV evI Li
  same : ∀ v, aget Li v = idxOf grp v
  hv : w.ownsRow B 57 2 hv grp.length (vcs (grp.map Prod.fst))
  hs : w.ownsRow B 51 1 hs grp.length (R.map evH)
  rows : ∀ i v ns, grp[i]? = some (v, ns) → w.ownsRow B 42 1 (evH (R.getD i none)) ns.length (ns.map ekN)
  apart : ∀ i i', i ≠ i' → (evH (R.getD i none)).ownBlock = none ∨ (evH (R.getD i none)).ownBlock ≠ (evH (R.getD i' none)).ownBlock
  big : B ≤ im

theorem ownsRow_keptT {w w' : World} {B : Nat} {T : TypeId} {sz n : Nat} {v : Value} {xs : List Value} (h : w.ownsRow B T sz v n xs) (hb : ∀ g, g < w.heap.size → (∃ cur, w.heap[g]? = some (.cells cur T (0, 0))) → w'.heap[g]? = w.heap[g]?) : w'.ownsRow B T sz v n xs :=
  ownsRow_of_block h (fun g hg => hb g (h.lt g hg).2 (ownsRow_ne h hg))

section
variable {w w' : World} {B im : Nat} {hv hs : Value} {Li : List (Verd × Nat)} {R : List (Option (Nat × Nat × Nat))} {grp : List (Verd × List Nat)}
theorem HoldAt.kept (h : HoldAt w B im hv hs Li R grp) (hB : ∀ g, g < w.heap.size → w'.heap[g]? = w.heap[g]?) : HoldAt w' B im hv hs Li R grp :=
  ⟨h.idx.of_block (hB _ h.idx.lt), h.same, ownsRow_keptT h.hv (fun g hg _ => hB g hg), ownsRow_keptT h.hs (fun g hg _ => hB g hg), fun i v ns hi => ownsRow_keptT (h.rows i v ns hi) (fun g hg _ => hB g hg), h.apart, h.big⟩
theorem HoldAt.alloc (h : HoldAt w B im hv hs Li R grp) (o : Obj) : HoldAt (w.alloc o) B im hv hs Li R grp := h.kept (fun g hg => Below.heap_alloc _ _ _ hg)
theorem HoldAt.below (h : HoldAt w B im hv hs Li R grp) (hb : Below w.heap.size w w') : HoldAt w' B im hv hs Li R grp := h.kept (fun g hg => hb.block g hg)
theorem HoldAt.Rlen (h : HoldAt w B im hv hs Li R grp) : R.length = grp.length := by simpa using h.hs.1

theorem HoldAt.push_step {hg hc : Nat} (h : HoldAt w B im hv (.slice (some ⟨hg, 0, none⟩) grp.length hc) Li R grp) (hBw : B ≤ w.heap.size) {i : Nat} {v : Verd} {ns : List Nat} (hi : grp[i]? = some (v, ns)) {x c : Nat} (hcc : w.cell? ⟨c, 0, none⟩ = some (.int .u32 (x : Int))) (hl : ns.length ≤ 1048576) :
    ∃ g cap w2, (Builtin.append_ #[51, 51] 51 #[evH (R.getD i none), .slice (some ⟨c, 0, none⟩) 1 1]).run Try.prog w = .ok (.slice (some ⟨g, 0, none⟩) (ns.length + 1) cap) w2 ∧ w2.cell? ⟨hg, i, none⟩ = some (evH (R.getD i none)) ∧ w2.frozen? ⟨hg, i, none⟩ = false ∧
      HoldAt (w2.setCell ⟨hg, i, none⟩ (.slice (some ⟨g, 0, none⟩) (ns.length + 1) cap)) B im hv (.slice (some ⟨hg, 0, none⟩) grp.length hc) Li (R.set i (some (g, ns.length + 1, cap))) (grp.set i (v, ns ++ [x])) ∧
      Below B w (w2.setCell ⟨hg, i, none⟩ (.slice (some ⟨g, 0, none⟩) (ns.length + 1) cap)) := by
  obtain ⟨g, cap, w2, hr, ho, hgr, hl', hlt⟩ := app51 51 w B _ ns x c (h.rows i v ns hi) hcc hl hBw
  have hil : i < grp.length := (List.getElem?_eq_some_iff.1 hi).1
  have hRl := h.Rlen
  have hRi : R[i]? = some (R.getD i none) := by simp [hRl, hil]
  have hcb : ∀ b, (evH (R.getD i none)).ownBlock = some b → ∃ cur, w.heap[b]? = some (.cells cur 42 (0, 0)) := fun b hb => ownsRow_ne (h.rows i v ns hi) hb
  -- a block of another type is kept by the append
  have hK : ∀ b, b < w.heap.size → (∀ cur, w.heap[b]? ≠ some (.cells cur 42 (0, 0))) → w2.heap[b]? = w.heap[b]? := fun b h1 h2 => hgr.block b h1 (fun e => by
    obtain ⟨cur, hc⟩ := hcb b e.symm
    exact h2 cur hc)
  have hT : ∀ {T : TypeId} {sz n : Nat} {u : Value} {xs : List Value}, T ≠ 42 → w.ownsRow B T sz u n xs → w2.ownsRow B T sz u n xs := fun {T sz n u xs} hT ho => ownsRow_keptT ho (fun g hg ⟨cur, hc⟩ => hK g hg (fun cur' hc' => by rw [hc] at hc'; simp at hc'; exact hT hc'.2))
  have hs2 := hT (by decide) h.hs
  have hst := hs2.stored i (.slice (some ⟨g, 0, none⟩) (ns.length + 1) cap)
  have hgb : ∃ cur, w2.heap[hg]? = some (.cells cur 51 (0, 0)) := ownsRow_ne hs2 rfl
  obtain ⟨hcur, hhg⟩ := hgb
  -- a block but hg is kept by the store
  have hK2 : ∀ b, b < w2.heap.size → b ≠ hg → (w2.setCell ⟨hg, i, none⟩ (.slice (some ⟨g, 0, none⟩) (ns.length + 1) cap)).heap[b]? = w2.heap[b]? := fun b h1 h2 => Below.heap_setCell _ _ _ _ h2
  have hT2 : ∀ {T : TypeId} {sz n : Nat} {u : Value} {xs : List Value}, T ≠ 51 → w2.ownsRow B T sz u n xs → (w2.setCell ⟨hg, i, none⟩ (.slice (some ⟨g, 0, none⟩) (ns.length + 1) cap)).ownsRow B T sz u n xs := fun {T sz n u xs} hT ho => ownsRow_keptT ho (fun g hg' ⟨cur, hc⟩ => hK2 g hg' (fun e => by rw [e, hhg] at hc; simp at hc; exact hT hc.2.symm))
  have hcell : w2.cell? ⟨hg, i, none⟩ = some (evH (R.getD i none)) := by
    rw [hs2.cellAt i (by omega), List.getElem?_map, hRi]
    rfl
  have hgR : ∀ i', i' ≠ i → (evH (R.getD i' none)).ownBlock = none ∨ (evH (R.getD i' none)).ownBlock ≠ some g := fun i' hne => by
    rcases hl' with e | e
    · rw [← e]; exact h.apart i' i hne
    · cases hob : (evH (R.getD i' none)).ownBlock with
      | none => exact .inl rfl
      | some b =>
        refine .inr (fun e' => ?_)
        by_cases hi' : i' < grp.length
        · have := ((h.rows i' _ _ (List.getElem?_eq_getElem hi')).lt b hob).2
          simp at e'
          omega
        · rw [List.getD_eq_getElem?_getD, List.getElem?_eq_none (by omega)] at hob
          simp [evH, Value.ownBlock] at hob
  have hRset : ∀ i', (R.set i (some (g, ns.length + 1, cap))).getD i' none = if i' = i then some (g, ns.length + 1, cap) else R.getD i' none := fun i' => by
    by_cases e : i' = i
    · subst e; simp [hRl, hil]
    · have e' : ¬ i = i' := fun h => e h.symm
      simp [List.getElem?_set, e, e']
  refine ⟨g, cap, w2, hr, hcell, hs2.frozenAt i, ⟨?_, fun x' => ?_, ?_, ?_, fun i' v' ns' hi' => ?_, fun i1 i2 hne => ?_, h.big⟩, ((Below.refl _ _).grown hgr hBw (fun k hk => ((h.rows i v ns hi).lt k hk).1)).setCell ((h.hs.lt hg rfl).1) _⟩
  · obtain ⟨es, cl, hb, _⟩ := h.idx.block
    have e2 : w2.heap[im]? = w.heap[im]? := hK im h.idx.lt (fun cur hc => by rw [hb] at hc; simp at hc)
    refine (h.idx.of_block e2).of_block (Below.heap_setCell _ _ _ _ (fun e => ?_))
    have e' : im = hg := e
    rw [e', hhg, ← e', hb] at e2
    simp at e2
  · rw [idxOf_set grp i v _ ns hi]
    exact h.same x'
  · rw [List.length_set, keys_set grp i v _ ns hi]
    exact hT2 (by decide) (hT (by decide) h.hv)
  · rw [List.length_set, List.map_set]
    exact hst.1
  · rw [hRset]
    by_cases e : i' = i
    · subst e
      rw [List.getElem?_set_self hil] at hi'
      cases hi'
      rw [if_pos rfl]
      have := hT2 (by decide) ho
      simpa [evH] using this
    · rw [List.getElem?_set_ne (fun h => e h.symm)] at hi'
      rw [if_neg e]
      refine hT2 (by decide) ((h.rows i' v' ns' hi').kept hgr ?_)
      exact h.apart i' i e
  · rw [hRset, hRset]
    by_cases e1 : i1 = i
    · subst e1
      rw [if_pos rfl, if_neg (fun h => hne h.symm)]
      rcases hgR i2 (fun h => hne h.symm) with h0 | h0
      · right; rw [h0]; simp [evH, Value.ownBlock]
      · right; simp only [evH, Value.ownBlock]; exact fun h => h0 h.symm
    · rw [if_neg e1]
      by_cases e2 : i2 = i
      · rw [if_pos e2]
        exact hgR i1 e1
      · rw [if_neg e2]
        exact h.apart i1 i2 hne

theorem HoldAt.new_step (h : HoldAt w B im hv hs Li R grp) (hBw : B ≤ w.heap.size) {v : Verd} {l : Lit} (hk : keyOf Try.prog 57 (evV v) = some l) (hn : idxOf grp v = none) (hl : grp.length ≤ 1048576) :
    ∃ w2 g cap w3 g' cap' w4, (Instr.mapUpdate 60 (.map (some im)) (evV v) (.int .i64 (grp.length : Nat))).run Try.prog w = .ok () w2 ∧ (∀ b, b < w.heap.size → b ≠ im → w2.heap[b]? = w.heap[b]?) ∧
      (Builtin.append_ #[48, 48] 48 #[hv, .slice (some ⟨w2.heap.size, 0, none⟩) 1 1]).run Try.prog (w2.alloc (.cells #[.int .u8 v.1, .int .u16 v.2] 57)) = .ok (.slice (some ⟨g, 0, none⟩) (grp.length + 1) cap) w3 ∧
      (Builtin.append_ #[61, 61] 61 #[hs, .slice (some ⟨w3.heap.size, 0, none⟩) 1 1]).run Try.prog (w3.alloc (.cells #[.slice none 0 0] 51)) = .ok (.slice (some ⟨g', 0, none⟩) (grp.length + 1) cap') w4 ∧
      HoldAt w4 B im (.slice (some ⟨g, 0, none⟩) (grp.length + 1) cap) (.slice (some ⟨g', 0, none⟩) (grp.length + 1) cap') (aput Li v grp.length) (R ++ [none]) (grp ++ [(v, [])]) ∧ Below B w w4 := by
  obtain ⟨w2, hup, hm2, ht2⟩ := h.idx.update law57 evV_inj Try.underlying60 hk grp.length
  have g2 := ht2.grown
  obtain ⟨es, cl, hb, _⟩ := h.idx.block
  have hT : ∀ {T : TypeId} {sz n : Nat} {u : Value} {xs : List Value}, w.ownsRow B T sz u n xs → w2.ownsRow B T sz u n xs := fun {T sz n u xs} ho => ownsRow_keptT ho (fun b h1 ⟨cur, hc⟩ => g2.block b h1 (fun e => by cases e; rw [hb] at hc; simp at hc))
  have hRl := h.Rlen
  obtain ⟨i57, hi, hz, h1, h2⟩ := info_parts Try.info57
  have hnew : (w2.alloc (.cells #[.int .u8 v.1, .int .u16 v.2] 57)).heap[w2.heap.size]? = some (.cells #[.int .u8 v.1, .int .u16 v.2] 57) := (MapKept.heap_alloc _ _).1
  obtain ⟨g, cap, w3, hr3, ho3, hg3, hl3, hlt3⟩ := run_append_lies (P := Try.prog) (w2.alloc (.cells #[.int .u8 v.1, .int .u16 v.2] 57)) 48 48 B 57 i57 _ 2 4 Try.underlying48 hi hz h1 h2 rfl (by omega) hv grp.length (vcs (grp.map Prod.fst)) ((hT h.hv).alloc _) ⟨w2.heap.size, 0, none⟩ 1 1 [.int .u8 v.1, .int .u16 v.2] rfl
    (fun j u hj => by
      rw [add_plain]
      match j, hj with
      | 0, hj => simp at hj; subst hj; unfold World.cell?; rw [hnew]; rfl
      | 1, hj => simp at hj; subst hj; unfold World.cell?; rw [hnew]; rfl)
    (fun u hu => by
      rcases List.mem_cons.1 hu with rfl | hu
      · rfl
      · rcases List.mem_cons.1 hu with rfl | hu
        · rfl
        · cases hu) (by omega) (by unfold maxLen; omega) (by omega) (by have := g2.size; simp; omega) _ rfl
  have hne : ∀ {T : TypeId} {sz n : Nat} {u : Value} {xs : List Value}, T ≠ 57 → w.ownsRow B T sz u n xs → w3.ownsRow B T sz u n xs := fun {T sz n u xs} hT' ho => ownsRow_keptT ((hT ho).alloc _) (fun b h1 ⟨cur, hc⟩ => hg3.block b h1 (fun e => by
    obtain ⟨cur', hc'⟩ := ownsRow_ne ((hT h.hv).alloc (.cells #[.int .u8 v.1, .int .u16 v.2] 57)) e.symm
    rw [hc] at hc'
    simp at hc'
    exact hT' hc'.2))
  obtain ⟨i51, hi', hz', h1', h2'⟩ := info_parts Try.info51
  have hnew3 : (w3.alloc (.cells #[.slice none 0 0] 51)).heap[w3.heap.size]? = some (.cells #[.slice none 0 0] 51) := (MapKept.heap_alloc _ _).1
  have hsz3 : B ≤ w3.heap.size := by have := g2.size; have h3 := hg3.size; simp at h3; omega
  obtain ⟨g', cap', w4, hr4, ho4, hg4, hl4, hlt4⟩ := run_append_lies (P := Try.prog) (w3.alloc (.cells #[.slice none 0 0] 51)) 61 61 B 51 i51 _ 1 24 Try.underlying61 hi' hz' h1' h2' rfl (by omega) hs grp.length (R.map evH) ((hne (by decide) h.hs).alloc _) ⟨w3.heap.size, 0, none⟩ 1 1 [.slice none 0 0] rfl
    (fun j u hj => by
      rw [add_plain]
      match j, hj with
      | 0, hj => simp at hj; subst hj; unfold World.cell?; rw [hnew3]; rfl)
    (fun u hu => by simp at hu; subst hu; rfl) (by omega) (by unfold maxLen; omega) (by omega) (by simp; omega) _ rfl
  have hne4 : ∀ {T : TypeId} {sz n : Nat} {u : Value} {xs : List Value}, T ≠ 51 → w3.ownsRow B T sz u n xs → w4.ownsRow B T sz u n xs := fun {T sz n u xs} hT' ho => ownsRow_keptT (ho.alloc _) (fun b h1 ⟨cur, hc⟩ => hg4.block b h1 (fun e => by
    obtain ⟨cur', hc'⟩ := ownsRow_ne ((hne (by decide) h.hs).alloc (.cells #[.slice none 0 0] 51)) e.symm
    rw [hc] at hc'
    simp at hc'
    exact hT' hc'.2))
  have hB3 : Below B w w3 := (((Below.refl _ _).grown g2 hBw (fun k hk => by cases hk; exact h.big)).alloc (by have := g2.size; omega) _).grown hg3 (by have := g2.size; simp; omega) (fun k hk => (((hT h.hv).alloc (.cells #[.int .u8 v.1, .int .u16 v.2] 57)).lt k hk).1)
  have hB4 : Below B w w4 := (hB3.alloc hsz3 _).grown hg4 (by simp; omega) (fun k hk => (((hne (by decide) h.hs).alloc (.cells #[.slice none 0 0] 51)).lt k hk).1)
  have hRg : ∀ i, (R ++ [none]).getD i none = R.getD i none := fun i => by
    by_cases e : i < R.length
    · rw [List.getD_eq_getElem?_getD, List.getD_eq_getElem?_getD, List.getElem?_append_left e]
    · rw [List.getD_eq_getElem?_getD, List.getD_eq_getElem?_getD, List.getElem?_eq_none (by omega : R.length ≤ i)]
      by_cases e' : i = R.length
      · subst e'; simp
      · rw [List.getElem?_eq_none (by simp; omega)]
  refine ⟨w2, g, cap, w3, g', cap', w4, hup, fun b h1 h2 => g2.block b h1 (by simpa using h2), hr3, hr4, ⟨?_, fun x => ?_, ?_, ?_, fun i v' ns' hi' => ?_, fun i i' hne' => ?_, h.big⟩, hB4⟩
  · have hm3 : MapL w3 Try.prog 57 im evV evI (aput Li v grp.length) := (hm2.alloc _).of_block (hg3.block im (hm2.alloc _).lt (fun e => by
      obtain ⟨cur', hc'⟩ := ownsRow_ne ((hT h.hv).alloc (.cells #[.int .u8 v.1, .int .u16 v.2] 57)) e.symm
      obtain ⟨es', cl', hb', _⟩ := (hm2.alloc (.cells #[.int .u8 v.1, .int .u16 v.2] 57)).block
      rw [hb'] at hc'
      simp at hc'))
    exact (hm3.alloc _).of_block (hg4.block im (hm3.alloc _).lt (fun e => by
      obtain ⟨cur', hc'⟩ := ownsRow_ne ((hne (by decide) h.hs).alloc (.cells #[.slice none 0 0] 51)) e.symm
      obtain ⟨es', cl', hb', _⟩ := (hm3.alloc (.cells #[.slice none 0 0] 51)).block
      rw [hb'] at hc'
      simp at hc'))
  · rw [aget_aput, idxOf_append grp v x [] ((idxOf_none grp v).1 hn), h.same]
  · rw [List.length_append, List.map_append, vcs_append]
    exact hne4 (by decide) ho3
  · rw [List.length_append, List.map_append]
    exact ho4
  · rw [hRg]
    by_cases e : i < grp.length
    · rw [List.getElem?_append_left e] at hi'
      exact hne4 (by decide) (hne (by decide) (h.rows i v' ns' hi'))
    · have hin : ns' = [] := by
        rw [List.getElem?_append_right (by omega)] at hi'
        by_cases e' : i - grp.length = 0
        · rw [e'] at hi'; simp at hi'; exact hi'.2
        · rw [List.getElem?_eq_none (by simp; omega)] at hi'; cases hi'
      subst hin
      rw [List.getD_eq_getElem?_getD, List.getElem?_eq_none (by omega : R.length ≤ i)]
      exact World.ownsRow_nil _ _ _ _
  · rw [hRg, hRg]
    exact h.apart i i' hne'
end
end Go.Proofs.Qxb6602988a
