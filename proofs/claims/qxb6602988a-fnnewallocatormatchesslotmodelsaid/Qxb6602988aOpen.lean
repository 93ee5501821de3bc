/-
  The allocator laws' arguments, opened: slices of slots and of verdicts.
-/
import Derived.Test.Qxb6602988aRows
import Derived.Test.Qxb6602988aA1
import Derived.ProofKit
import Derived.OpenShut
import Derived.ChangeOld
import Derived.Below
import Derived.Deep.SlicePairs
import Derived.Deep.Strs
namespace Go.Proofs.Qxb6602988a
open Go.ChangeShapes Go.WideShapes Go.ChangeAt Go.RowKit Go.Deep
set_option linter.unusedVariables false
set_option linter.unusedSimpArgs false

theorem own' : ownKnob Try.prog.godebug = none := by kernel_rfl
theorem laidOut' : laidOutB Try.prog = true := by kernel_rfl
theorem Try.cells67 : Try.prog.cellsOf 67 = 3 := by kernel_rfl
theorem Try.cells72 : Try.prog.cellsOf 72 = 2 := by kernel_rfl
theorem Try.cells42' : Try.prog.cellsOf 42 = 1 := by kernel_rfl
theorem Try.cells5 : Try.prog.cellsOf 5 = 1 := by kernel_rfl

theorem plain_at' {w : World} {x : Addr} {v : Value} (h : w.cell? (x.add 0) = some v) : ∃ b off, x = ⟨b, off, none⟩ ∧ b < w.heap.size ∧ ∀ j, x.add j = ⟨b, off + j, none⟩ := by
  obtain ⟨b, off, spot⟩ := x
  have hs : spot = none := by simpa [Addr.add] using World.cell?_spot h
  subst hs
  have hlt := World.block_lt_of_cell? w _ h
  refine ⟨b, off, rfl, ?_, fun j => add_plain _ _ _⟩
  rw [add_plain] at hlt
  exact hlt

theorem open_slots {H : Type} {enc : TypeId × Value → H} {W : World} {fuel : Nat} {a : Option Addr} {n cap : Nat} {x : DataW H × List MemPlace}
    (h : DataW.trod enc Try.prog W 0 (fun _ => true) true fuel 35 [.slice a n cap] = some x) :
    n ≤ maxLen ∧ ∃ A V P, SlotsAt W a n A V P ∧ (∀ i, i < n → A i < 4294967296) ∧ (∀ i, i < n → (Lit.int .u8 (V i)).wf = true) ∧ (∀ i, i < n → (Lit.int .u16 (P i)).wf = true) := by
  rcases open_slice Try.underlying35 h with ⟨hcs, _⟩ | ⟨y, len, c, m, f, D, Pl, hcs, _, hl, hm, hmm, _, hx⟩
  · simp at hcs
    obtain ⟨rfl, rfl, rfl⟩ := hcs
    exact ⟨Nat.zero_le _, fun _ => 0, fun _ => 0, fun _ => 0, fun i hi => by omega, fun i hi => by omega, fun i hi => by omega, fun i hi => by omega⟩
  · simp at hcs
    obtain ⟨rfl, rfl, rfl⟩ := hcs
    simp only [if_true] at hmm
    rw [Try.cells67] at hx
    have each : ∀ i, i < n → ∃ q : Nat × Int × Int, W.cell? (y.add (i * 3)) = some (.int .u32 q.1) ∧ W.cell? (y.add (i * 3 + 1)) = some (.int .u8 q.2.1) ∧ W.cell? (y.add (i * 3 + 2)) = some (.int .u16 q.2.2) ∧ q.1 < 4294967296 ∧ (Lit.int .u8 q.2.1).wf = true ∧ (Lit.int .u16 q.2.2).wf = true := fun i hi => by
      obtain ⟨cs', h1, h2⟩ := hx i (by omega)
      obtain ⟨_, hlen, hcell⟩ := World.cells?_some h1
      obtain ⟨y0, y1, y2, k, _, _, t0, t1, t2⟩ := trod_struct3 Try.underlying67 h2
      match cs', hlen with
      | [v0, v1, v2], _ =>
        simp [Try.cells42', Try.cells5, Try.cells55] at t0 t1 t2
        obtain ⟨k0, e0, _, w0⟩ := DataW.trod_int Try.underlying42 t0
        obtain ⟨k1, e1, _, w1⟩ := DataW.trod_int Try.underlying5 t1
        obtain ⟨k2, e2, _, w2⟩ := DataW.trod_int Try.underlying55 t2
        simp at e0 e1 e2
        subst e0 e1 e2
        have b0 := bounds_u32 w0
        have g0 := hcell 0 (by omega)
        have g1 := hcell 1 (by omega)
        have g2 := hcell 2 (by omega)
        rw [add_add] at g0 g1 g2
        refine ⟨(k0.toNat, k1, k2), ?_, by simpa using g1, by simpa using g2, by show k0.toNat < _; omega, w1, w2⟩
        rw [show (((k0.toNat : Nat)) : Int) = k0 from by omega]
        simpa using g0
    obtain ⟨q, hq⟩ := choose_lt each
    refine ⟨by omega, fun i => (q i).1, fun i => (q i).2.1, fun i => (q i).2.2, fun i hi => ?_, fun i hi => (hq i hi).2.2.2.1, fun i hi => (hq i hi).2.2.2.2.1, fun i hi => (hq i hi).2.2.2.2.2⟩
    obtain ⟨c0, c1, c2, _⟩ := hq i hi
    obtain ⟨b, off, rfl, hb, hadd⟩ := plain_at' (by simpa using (hq 0 (by omega)).1)
    rw [hadd] at c0 c1 c2
    exact ⟨b, off, rfl, hb, c0, by rw [← Nat.add_assoc] at c1; exact c1, by rw [← Nat.add_assoc] at c2; exact c2⟩

theorem open_vs {H : Type} {enc : TypeId × Value → H} {W : World} {fuel : Nat} {a : Option Addr} {n cap : Nat} {x : DataW H × List MemPlace}
    (h : DataW.trod enc Try.prog W 0 (fun _ => true) true fuel 69 [.slice a n cap] = some x) :
    n ≤ maxLen ∧ ∃ V P, VsAt W a n V P ∧ (∀ i, i < n → (Lit.int .u8 (V i)).wf = true) ∧ (∀ i, i < n → (Lit.int .u16 (P i)).wf = true) := by
  rcases open_slice_pairs Try.underlying69 Try.underlying72 Try.cells72 rfl rfl Try.cells5 Try.cells55 h with ⟨hcs, _⟩ | ⟨y, len, c, m, f, V0, V1, D0, D1, P0, P1, hcs, _, hl, hm, hmm, _, hx⟩
  · simp at hcs
    obtain ⟨rfl, rfl, rfl⟩ := hcs
    exact ⟨Nat.zero_le _, fun _ => 0, fun _ => 0, fun i hi => by omega, fun i hi => by omega, fun i hi => by omega⟩
  · simp at hcs
    obtain ⟨rfl, rfl, rfl⟩ := hcs
    simp only [if_true] at hmm
    have each : ∀ i, i < n → ∃ q : Int × Int, V0 i = .int .u8 q.1 ∧ V1 i = .int .u16 q.2 ∧ (Lit.int .u8 q.1).wf = true ∧ (Lit.int .u16 q.2).wf = true := fun i hi => by
      obtain ⟨_, _, t0, t1⟩ := hx i (by omega)
      obtain ⟨k, e0, _, w0⟩ := DataW.trod_int Try.underlying5 t0
      obtain ⟨s, e1, _, w1⟩ := DataW.trod_int Try.underlying55 t1
      exact ⟨(k, s), by simpa using e0, by simpa using e1, w0, w1⟩
    obtain ⟨q, hq⟩ := choose_lt each
    refine ⟨by omega, fun i => (q i).1, fun i => (q i).2, fun i hi => ?_, fun i hi => (hq i hi).2.2.1, fun i hi => (hq i hi).2.2.2⟩
    obtain ⟨c0, c1, _, _⟩ := hx i (by omega)
    obtain ⟨b, off, rfl, hb, hadd⟩ := plain_at' (by simpa using (hx 0 (by omega)).1)
    rw [hadd] at c0 c1
    exact ⟨b, off, rfl, hb, by rw [c0, (hq i hi).1], by rw [← Nat.add_assoc] at c1; rw [c1, (hq i hi).2.1]⟩
end Go.Proofs.Qxb6602988a
