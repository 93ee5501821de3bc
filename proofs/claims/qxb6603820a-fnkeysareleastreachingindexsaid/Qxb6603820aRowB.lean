/-
  A block of the call's own whose cells are known by index: 'RowB w g T n f'.
-/
import Derived.Test.Qxb6603820aProg
import Derived.WalkKit
import Derived.Deep.QuietTactic
import Derived.BigQuiet
import Derived.Deep.AppendLies
import Derived.Laws.OwnMore
import Derived.Deep.LoopGhost
import Derived.Laws.BytesArg
import Derived.Lib.SmallJoins
import Derived.Deep.RegionHeld3
namespace Go.Proofs.Qxb6603820a
open Go.RowKit Go.WideShapes
set_option linter.unusedVariables false
set_option linter.unusedSimpArgs false

/-- Block g of w is a row of n cells of type T, nothing frozen; cell i holds f i. -/
def RowB (w : World) (g : Nat) (T : TypeId) (n : Nat) (f : Nat → Value) : Prop :=
  ∃ cur : Array Value, w.heap[g]? = some (.cells cur T (0, 0)) ∧ cur.size = n ∧ ∀ i, i < n → cur[i]? = some (f i)

section
variable {w w' : World} {g : Nat} {T : TypeId} {n : Nat} {f : Nat → Value}
theorem RowB.lt (h : RowB w g T n f) : g < w.heap.size := by
  obtain ⟨cur, hb, _⟩ := h
  exact (Array.getElem?_eq_some_iff.1 hb).1
theorem RowB.cell (h : RowB w g T n f) {i : Nat} (hi : i < n) : w.cell? ⟨g, i, none⟩ = some (f i) := by
  obtain ⟨cur, hb, _, hc⟩ := h
  simp [World.cell?, hb, hc i hi]
theorem RowB.frozen (h : RowB w g T n f) (i : Nat) : w.frozen? ⟨g, i, none⟩ = false := by
  obtain ⟨cur, hb, _, hc⟩ := h
  simp [World.frozen?, hb]
theorem RowB.of_block (h : RowB w g T n f) (hb : w'.heap[g]? = w.heap[g]?) : RowB w' g T n f := by
  obtain ⟨cur, hb0, r⟩ := h
  exact ⟨cur, hb.trans hb0, r⟩
theorem RowB.congr (h : RowB w g T n f) {f' : Nat → Value} (he : ∀ i, i < n → f i = f' i) : RowB w g T n f' := by
  obtain ⟨cur, hb, hs, hc⟩ := h
  exact ⟨cur, hb, hs, fun i hi => by rw [hc i hi, he i hi]⟩
theorem RowB.setCell (h : RowB w g T n f) {i : Nat} (v : Value) : RowB (w.setCell ⟨g, i, none⟩ v) g T n (fun j => if j = i then v else f j) := by
  obtain ⟨cur, hb, hs, hc⟩ := h
  refine ⟨cur.setIfInBounds i v, ?_, by simpa using hs, fun j hj => ?_⟩
  · simp [World.setCell, Array.getElem?_modify, hb]
  · rw [Array.getElem?_setIfInBounds]
    by_cases e : i = j
    · subst e; simp [show i < cur.size by omega]
    · rw [if_neg e, hc j hj]; have e2 : ¬ j = i := fun h => e h.symm
      simp [e2]
theorem RowB.setOther (h : RowB w g T n f) (a : Addr) (v : Value) (hne : g ≠ a.block) : RowB (w.setCell a v) g T n f := h.of_block (Below.heap_setCell _ _ _ _ hne)
theorem RowB.alloc (h : RowB w g T n f) (o : Obj) : RowB (w.alloc o) g T n f := h.of_block (Below.heap_alloc _ _ _ h.lt)
theorem RowB.drew (h : RowB w g T n f) : RowB w.drew g T n f := h.of_block rfl
theorem RowB.drewN (h : RowB w g T n f) (q : Nat) : RowB (w.drewN q) g T n f := h.of_block rfl
theorem RowB.below {B : Nat} (h : RowB w g T n f) (hw : Below B w w') (hg : g < B) : RowB w' g T n f := h.of_block (hw.block g hg)
end

/-- a row told by its cells -/
def rowOf (n : Nat) (f : Nat → Value) : Array Value := (Array.range n).map f
theorem rowB_new (w : World) (T : TypeId) (n : Nat) (f : Nat → Value) : RowB (w.alloc (.cells (rowOf n f) T)) w.heap.size T n f :=
  ⟨rowOf n f, (MapKept.heap_alloc w _).1, by simp [rowOf], fun i hi => by simp [rowOf, hi]⟩

theorem madeCells_row (z : Array Value) (n : Nat) : madeCells z n = rowOf n (fun i => z[i % z.size]!) := rfl

/-- 'make([]T, n)' -/
theorem make_row {P : Program} (w : World) (t e : TypeId) (i : TypeInfo) (z : Value) (size : Nat) (ht : P.underlying t = some (.slice e)) (hi : P.info? e = some i) (hz : i.zero = some z) (h1 : i.size = size)
    (kl kc : IntKind) (c : Nat) (hbytes : i.bytes * c ≤ 281474976710656) (h63 : c ≤ maxLen) (f : Nat → Value) (hf : ∀ j, j < c * size → z.cells[j % z.cells.size]! = f j) :
    (Instr.makeSlice t (.int kl c) (.int kc c)).run P w = .ok (.slice (some ⟨w.heap.size, 0, none⟩) c c) (w.alloc (.cells (rowOf (c * size) f) e)) := by
  unfold maxLen at h63
  have hb : (i.bytes : Int) * (c : Int) ≤ 281474976710656 := by
    have h : ((i.bytes * c : Nat) : Int) ≤ 281474976710656 := by omega
    rwa [Int.natCast_mul] at h
  have hr := run_make (P := P) w t e i z ht hi hz kl kc c c (by omega) (by omega) hb (by omega)
  have e1 : madeCells z.cells (c * size) = rowOf (c * size) f := by
    rw [madeCells_row]
    unfold rowOf
    apply Array.ext_getElem?
    intro j
    by_cases hj : j < c * size
    · simp [hj, hf j hj]
    · simp [hj]
  rw [h1] at hr
  simp only [Int.toNat_natCast] at hr
  rw [hr, e1]

theorem RowB.ne {w : World} {g g' : Nat} {T T' : TypeId} {n n' : Nat} {f f' : Nat → Value} (h : RowB w g T n f) (h' : RowB w g' T' n' f') (hT : T ≠ T') : g ≠ g' := by
  obtain ⟨c, hb, _⟩ := h
  obtain ⟨c', hb', _⟩ := h'
  intro e
  rw [e, hb'] at hb
  simp at hb
  exact hT hb.2.symm
/-- the block of an owned row is of its own type -/
theorem ownsRow_ne {w : World} {base : Nat} {e : TypeId} {size n : Nat} {v : Value} {xs : List Value} (h : w.ownsRow base e size v n xs) {g : Nat} (hg : v.ownBlock = some g) : ∃ cur, w.heap[g]? = some (.cells cur e (0, 0)) := by
  rcases h.2 with ⟨rfl, _⟩ | ⟨g', cap, cur, rfl, _, hgg, _⟩
  · simp [Value.ownBlock] at hg
  · simp [Value.ownBlock] at hg
    subst hg
    exact ⟨cur, hgg⟩
theorem ownsRow_of_block {w w' : World} {base : Nat} {e : TypeId} {size n : Nat} {v : Value} {xs : List Value} (h : w.ownsRow base e size v n xs) (hb : ∀ g, v.ownBlock = some g → w'.heap[g]? = w.heap[g]?) : w'.ownsRow base e size v n xs := by
  refine ⟨h.1, ?_⟩
  rcases h.2 with hn | ⟨g, cap, cur, rfl, hbb, hgg, rest⟩
  · exact .inl hn
  · exact .inr ⟨g, cap, cur, rfl, hbb, by rw [hb g rfl]; exact hgg, rest⟩

theorem ownsRow_keptT {w w' : World} {B : Nat} {T : TypeId} {sz n : Nat} {v : Value} {xs : List Value} (h : w.ownsRow B T sz v n xs) (hb : ∀ g, g < w.heap.size → (∃ cur, w.heap[g]? = some (.cells cur T (0, 0))) → w'.heap[g]? = w.heap[g]?) : w'.ownsRow B T sz v n xs :=
  ownsRow_of_block h (fun g hg => hb g (h.lt g hg).2 (ownsRow_ne h hg))

/-- an append whose run is known, at the operation -/
theorem wpList_append_run {P : Program} {w w' : World} {ops : Array Oper} {rest : List Oper} {o : Oper} {a : Act} {Q : Exit → Act → World → Prop} {t ty : TypeId} {v x' r : Value}
    (hr : (Builtin.append_ #[t, t] ty #[v, x']).run P w = .ok r w') (hg : o.guard = none) (s x : Operand) (hop : o.op = .call { callee := .builtin .append, args := #[s, x], argTypes := #[t, t] }) (hty : o.type = ty)
    (hs : a.eval s = v) (hx : a.eval x = x') (hK : wpList P ops Q rest (a.put o.dst r) w') : wpList P ops Q (o :: rest) a w := by
  refine wpList_plain hg fun K hK' => ?_
  subst hty
  unfold Oper.wp execOp
  simp only [hop, resolve, invoke, builtin, Sem.run_bind, Sem.run_pure, Result.andThen_ok, List.map_toArray, List.map_cons, List.map_nil, hs, hx, hr]
  exact hK' _ _ hK
theorem step_append_run {P : Program} {w w' : World} {ops : Array Oper} {o : Oper} {a : Act} {K : Act → World → Prop} {Q : Exit → Act → World → Prop} {E : Prop} {t ty : TypeId} {v x' r : Value}
    (hr : (Builtin.append_ #[t, t] ty #[v, x']).run P w = .ok r w') (hg : o.guard = none) (s x : Operand) (hop : o.op = .call { callee := .builtin .append, args := #[s, x], argTypes := #[t, t] }) (hty : o.type = ty)
    (hs : a.eval s = v) (hx : a.eval x = x') (hK : K (a.put o.dst r) w') : if Region.wanted o (yielded ops a.tmps) = true then Oper.wp P o a w K Q else E := by
  have hw : Region.wanted o (yielded ops a.tmps) = true := by simp [Region.wanted, hg]
  rw [if_pos hw]
  subst hty
  unfold Oper.wp execOp
  simp only [hop, resolve, invoke, builtin, Sem.run_bind, Sem.run_pure, Result.andThen_ok, List.map_toArray, List.map_cons, List.map_nil, hs, hx, hr]
  exact hK

theorem ownsRow_form {w : World} {base : Nat} {e : TypeId} {size n : Nat} {v : Value} {xs : List Value} (h : w.ownsRow base e size v n xs) : ∃ a c, v = .slice a n c := by
  rcases h.2 with ⟨rfl, rfl⟩ | ⟨g, cap, cur, rfl, _⟩
  · exact ⟨_, _, rfl⟩
  · exact ⟨_, _, rfl⟩

theorem Below.drewN' {B : Nat} {w w' : World} (h : Below B w w') (n : Nat) : Below B w (w'.drewN n) := ⟨h.os, h.tape, h.output, h.size, h.block⟩
end Go.Proofs.Qxb6603820a
