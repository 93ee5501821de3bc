import Derived.Test.Qxb6603654aP1
namespace Go.Proofs.Qxb6603654a
open Go.RowKit Go.WideShapes
set_option linter.unusedVariables false
set_option linter.unusedSimpArgs false

def frow (rg : Nat) (kept : Bool) : List Value := [.bool false, .int .i64 2, .slice (some ⟨rg, 0, none⟩) 1 1, .bool kept, .int .i64 0, .slice none 0 0]
def FrAt (w : World) (B fg fcap rg : Nat) (kept : Bool) : Prop := w.ownsRow B 50 6 (.slice (some ⟨fg, 0, none⟩) 1 fcap) 1 (frow rg kept)
section
variable {w w' : World} {B p rg fg fcap : Nat} {name : ByteArray} {ov ov' sv : Value} {out : List Int} {st : Int} {bad kept : Bool} {lit : ByteArray}
theorem FrAt.keptT (h : FrAt w B fg fcap rg kept) (hb : w'.heap[fg]? = w.heap[fg]?) : FrAt w' B fg fcap rg kept := ownsRow_of_block h (fun g hg => by cases hg; exact hb)
theorem FrAt.block (h : FrAt w B fg fcap rg kept) : ∃ cur, w.heap[fg]? = some (.cells cur 50 (0, 0)) := ownsRow_ne h rfl
theorem FrAt.lt (h : FrAt w B fg fcap rg kept) : fg < w.heap.size := (World.ownsRow.lt h fg rfl).2
theorem FrAt.ne_p (h : FrAt w B fg fcap rg kept) (k : ExAt w B p rg name ov sv out st bad lit) : fg ≠ p := fun e => by
  obtain ⟨cur, hc⟩ := h.block
  obtain ⟨c, hb, _⟩ := k.blk
  rw [e, hb] at hc
  simp at hc
theorem FrAt.ne_o (h : FrAt w B fg fcap rg kept) (k : ExAt w B p rg name ov sv out st bad lit) : some fg ≠ ov.ownBlock := fun e => by
  obtain ⟨cur, hc⟩ := h.block
  obtain ⟨cur', hc'⟩ := ownsRow_ne k.row e.symm
  rw [hc'] at hc
  simp at hc
theorem FrAt.emits (h : FrAt w B fg fcap rg kept) (k : ExAt w B p rg name ov sv out st bad lit) (he : Emits w w' (fun b => b = p) ov ov') : FrAt w' B fg fcap rg kept :=
  h.keptT (he.block fg h.lt (h.ne_p k) (h.ne_o k))
theorem FrAt.cell (h : FrAt w B fg fcap rg kept) (j : Nat) (hj : j < 6) : w.cell? ⟨fg, j, none⟩ = (frow rg kept)[j]? := World.ownsRow.cellAt h j (by omega)
/-- the frame's mark is set -/
theorem FrAt.mark (h : FrAt w B fg fcap rg kept) : FrAt (w.setCell ⟨fg, 3, none⟩ (.bool true)) B fg fcap rg true := (World.ownsRow.stored h 3 (.bool true)).1
theorem ExAt.setOther (k : ExAt w B p rg name ov sv out st bad lit) (h : FrAt w B fg fcap rg kept) (i : Nat) (v : Value) : ExAt (w.setCell ⟨fg, i, none⟩ v) B p rg name ov sv out st bad lit := by
  obtain ⟨cur, hc⟩ := h.block
  refine ⟨k.blk.setOther _ _ (h.ne_p k).symm, ownsRow_keptT k.row (fun g hg ⟨cur', hc'⟩ => Below.heap_setCell _ _ _ _ (fun e => ?_)), k.root.setOther _ _ (fun e => ?_), k.bp, k.br⟩
  · rw [e, hc] at hc'; simp at hc'
  · obtain ⟨c, hb, _⟩ := k.root
    rw [show rg = fg from e, hc] at hb
    simp at hb
end

def sepK (kept : Bool) : List Int := if kept then [44] else []
theorem byte1 (w : World) (x : Int) : ∀ (j : Nat) (y : Int), [x][j]? = some y → (w.alloc (.cells #[.int .u8 x] 5)).cell? ⟨w.heap.size, j, none⟩ = some (.int .u8 y) := fun j y h => by
  have := (MapKept.heap_alloc w (.cells #[.int .u8 x] 5)).1
  match j, h with
  | 0, h => simp at h; subst h; unfold World.cell?; rw [this]; rfl

set_option maxHeartbeats 400000 in
theorem next27 {w : World} {B p rg fg fcap : Nat} {name : ByteArray} {ov : Value} {out : List Int} {st : Int} {bad kept : Bool} {lit : ByteArray} (h : ExAt w B p rg name ov (.slice (some ⟨fg, 0, none⟩) 1 fcap) out st bad lit) (hf : FrAt w B fg fcap rg kept) (hB : B ≤ w.heap.size) (hl : out.length + 1 ≤ 1048576) :
    Calls Try.prog 27 #[.pointer (some ⟨p, 0, none⟩)] w fun e w' => e = .returned (.tuple #[.int .i64 2, .slice (some ⟨rg, 0, none⟩) 1 1]) ∧ ∃ ov', ExAt w' B p rg name ov' (.slice (some ⟨fg, 0, none⟩) 1 fcap) (out ++ sepK kept) st bad lit ∧ FrAt w' B fg fcap rg true ∧ Emits w w' (fun b => b = p ∨ b = fg) ov ov' := by
  have c1 : w.cell? ⟨p, 1, none⟩ = some (.slice (some ⟨fg, 0, none⟩) 1 fcap) := h.blk.cell (i := 1) (by omega)
  have e0 : w.cell? ⟨fg, 0, none⟩ = some (.bool false) := hf.cell 0 (by omega)
  have e1 : w.cell? ⟨fg, 1, none⟩ = some (.int .i64 2) := hf.cell 1 (by omega)
  have e3 : w.cell? ⟨fg, 3, none⟩ = some (.bool kept) := hf.cell 3 (by omega)
  go_enter Try.func27, Try.ntmps27
  cases kept with
  | true =>
    go_wp2
    go_quiet (fail)
    go_wp2_with fail
    have h1 := (h.drewN nq).alloc (.cells #[.int .u8 44] 5)
    have hf1 : FrAt ((w.drewN nq).alloc (.cells #[.int .u8 44] 5)) B fg fcap rg true := FrAt.keptT (w := w.drewN nq) (FrAt.keptT (w := w) hf rfl) (Below.heap_alloc _ _ _ hf.lt)
    have hem1 := ((Emits.refl w (fun b => b = p ∨ b = fg) ov).drewN nq).alloc (.cells #[.int .u8 44] 5)
    refine (emit28 h1 (xs := [44]) (cap := 1) (Nat.le_trans hB (by simp)) (byte1 (w.drewN nq) 44) (by simp) hl).mono ?_
    rintro e w2 ⟨rfl, ov2, h2, hem2⟩
    have hf2 := hf1.emits h1 hem2
    have hem3 := hem1.trans (hem2.mono (fun b hb => Or.inl hb))
    have g1 : (w2.setCell ⟨fg, 3, none⟩ (.bool true)).cell? ⟨fg, 1, none⟩ = some (.int .i64 2) := hf2.mark.cell 1 (by omega)
    have g2 : (w2.setCell ⟨fg, 3, none⟩ (.bool true)).cell? ⟨fg, 2, none⟩ = some (.slice (some ⟨rg, 0, none⟩) 1 1) := hf2.mark.cell 2 (by omega)
    have g3 : w2.cell? ⟨fg, 3, none⟩ = some (.bool true) := hf2.cell 3 (by omega)
    have z3 : w2.frozen? ⟨fg, 3, none⟩ = false := World.ownsRow.frozenAt hf2 3
    go_wp2_with fail
    go_quiet (fail)
    go_wp2_with fail
    go_ret2
    exact ⟨rfl, ov2, (h2.setOther hf2 3 _).drewN _, FrAt.keptT (w := w2.setCell ⟨fg, 3, none⟩ (.bool true)) hf2.mark rfl, (hem3.setCell (a := ⟨fg, 3, none⟩) (Or.inr rfl) _).drewN _⟩
  | false =>
    have z3 : w.frozen? ⟨fg, 3, none⟩ = false := World.ownsRow.frozenAt hf 3
    have g1 : ∀ nq, ((w.drewN nq).setCell ⟨fg, 3, none⟩ (.bool true)).cell? ⟨fg, 1, none⟩ = some (.int .i64 2) := fun nq => (FrAt.mark (w := w.drewN nq) (FrAt.keptT (w := w) hf rfl)).cell 1 (by omega)
    have g2 : ∀ nq, ((w.drewN nq).setCell ⟨fg, 3, none⟩ (.bool true)).cell? ⟨fg, 2, none⟩ = some (.slice (some ⟨rg, 0, none⟩) 1 1) := fun nq => (FrAt.mark (w := w.drewN nq) (FrAt.keptT (w := w) hf rfl)).cell 2 (by omega)
    go_wp2
    go_quiet (fail)
    have hf1 : FrAt (w.drewN nq) B fg fcap rg false := FrAt.keptT (w := w) hf rfl
    have hem1 : Emits w ((w.drewN nq).setCell ⟨fg, 3, none⟩ (.bool true)) (fun b => b = p ∨ b = fg) ov ov := ((Emits.refl w _ ov).drewN nq).setCell (a := ⟨fg, 3, none⟩) (Or.inr rfl) _
    have h1 := (h.drewN nq).setOther hf1 3 (.bool true)
    have hf2 := hf1.mark
    go_wp2
    go_quiet (fail)
    go_wp2
    go_ret2
    refine ⟨rfl, ov, ?_, FrAt.keptT hf2 rfl, hem1.drewN _⟩
    rw [show out ++ sepK false = out from by simp [sepK]]
    exact h1.drewN _
end Go.Proofs.Qxb6603654a
