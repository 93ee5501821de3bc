/-
  The tables that came in, opened.
-/
import Derived.Test.Qxb6603820aRows
import Derived.Test.Qxb6603820aK2
import Derived.ProofKit
import Derived.OpenShut
import Derived.ChangeOld
import Derived.Below
import Derived.Deep.Matrix
namespace Go.Proofs.Qxb6603820a
open Go.ChangeShapes Go.WideShapes Go.ChangeAt Go.RowKit Go.Deep
set_option linter.unusedVariables false
set_option linter.unusedSimpArgs false

theorem own' : ownKnob Try.prog.godebug = none := by kernel_rfl
theorem laidOut' : laidOutB Try.prog = true := by kernel_rfl
theorem Try.cells26 : Try.prog.cellsOf 26 = 1 := by kernel_rfl
theorem Try.cells3 : Try.prog.cellsOf 3 = 1 := by kernel_rfl
theorem plain_at' {w : World} {x : Addr} {v : Value} (h : w.cell? (x.add 0) = some v) : ∃ b off, x = ⟨b, off, none⟩ ∧ b < w.heap.size ∧ ∀ j, x.add j = ⟨b, off + j, none⟩ := by
  obtain ⟨b, off, spot⟩ := x
  have hs : spot = none := by simpa [Addr.add] using World.cell?_spot h
  subst hs
  have hlt := World.block_lt_of_cell? w _ h
  refine ⟨b, off, rfl, ?_, fun j => add_plain _ _ _⟩
  rw [add_plain] at hlt
  exact hlt
theorem open_tab {H : Type} {enc : TypeId × Value → H} {W : World} {fuel : Nat} {a : Option Addr} {n cap : Nat} {x : DataW H × List MemPlace}
    (h : DataW.trod enc Try.prog W 0 (fun _ => true) true fuel 22 [.slice a n cap] = some x) :
    n ≤ maxLen ∧ ∃ ra RL rc X, TabAt W a n ra RL rc X := by
  rcases open_int_rows Try.underlying22 Try.underlying26 Try.underlying3 Try.cells26 Try.cells3 h with ⟨hcs, _⟩ | ⟨y, len, c, A, L, C, Z, hcs, _, hl, hm, _, hx⟩
  · simp at hcs
    obtain ⟨rfl, rfl, rfl⟩ := hcs
    exact ⟨Nat.zero_le _, fun _ => none, fun _ => 0, fun _ => 0, fun _ _ => 0, fun i hi => by omega, fun i hi => by omega, fun i hi => by omega⟩
  · simp at hcs
    obtain ⟨rfl, rfl, rfl⟩ := hcs
    refine ⟨by omega, A, L, C, fun r k => (Z r).getD k 0, fun i hi => ?_, fun i hi => ?_, fun i hi k hk => ?_⟩
    · obtain ⟨b, off, rfl, hb, hadd⟩ := plain_at' (hx 0 (by omega)).1
      have := (hx i (by omega)).1
      rw [hadd] at this
      exact ⟨b, off, rfl, hb, this⟩
    · obtain ⟨_, h1, h2, _⟩ := hx i (by omega)
      omega
    · obtain ⟨_, h1, h2, h3, h4, h5, h6⟩ := hx i (by omega)
      cases hA : A i with
      | none => have := h5 hA; omega
      | some a' =>
        obtain ⟨_, h7⟩ := h6 a' hA
        obtain ⟨b, off, rfl, hb, hadd⟩ := plain_at' (h7 0 (by omega))
        have := h7 k (by omega)
        rw [hadd] at this
        exact ⟨b, off, rfl, hb, this⟩
end Go.Proofs.Qxb6603820a
