/-
  'Rows.FnBindsOverUnchangedRuleSetOnlyWhenOddSaid' proved: the arguments opened, the walk (Qxb6602988aB4), the row.
-/
import Derived.Test.Qxb6602988aRows
import Derived.Test.Qxb6602988aB4
import Derived.ProofKit
import Derived.OpenShut
import Derived.ChangeOld
import Derived.Below
import Derived.Deep.SlicePairs
import Derived.Lib.SmallJoins
namespace Go.Proofs.Qxb6602988a
open Go.ChangeShapes Go.WideShapes Go.ChangeAt Go.RowKit Go.Deep Go.Joins
set_option linter.unusedVariables false
set_option linter.unusedSimpArgs false

theorem own : ownKnob Try.prog.godebug = none := by kernel_rfl
theorem laidOut : laidOutB Try.prog = true := by kernel_rfl
theorem Try.cells24 : Try.prog.cellsOf 24 = 3 := by kernel_rfl
theorem Try.cells9 : Try.prog.cellsOf 9 = 1 := by kernel_rfl
theorem Try.cells75 : Try.prog.cellsOf 75 = 2 := by kernel_rfl
theorem Try.cells42 : Try.prog.cellsOf 42 = 1 := by kernel_rfl
theorem Try.cells81 : Try.prog.cellsOf 81 = 2 := by kernel_rfl

theorem plain_at {w : World} {x : Addr} {v : Value} (h : w.cell? (x.add 0) = some v) : ∃ b off, x = ⟨b, off, none⟩ ∧ b < w.heap.size ∧ ∀ j, x.add j = ⟨b, off + j, none⟩ := by
  obtain ⟨b, off, spot⟩ := x
  have hs : spot = none := by simpa [Addr.add] using World.cell?_spot h
  subst hs
  have hlt := World.block_lt_of_cell? w _ h
  refine ⟨b, off, rfl, ?_, fun j => add_plain _ _ _⟩
  rw [add_plain] at hlt
  exact hlt

/-- a slice of pairs of cells, opened: [k0, string] -/
theorem open_cells {H : Type} {enc : TypeId × Value → H} {W : World} {fuel : Nat} {a : Option Addr} {n cap : Nat} {x : DataW H × List MemPlace}
    (h : DataW.trod enc Try.prog W 0 (fun _ => true) true fuel 22 [.slice a n cap] = some x) :
    n ≤ maxLen ∧ ∃ I S, CellsAt W a n I S ∧ (∀ i, i < n → (Lit.int .u32 (I i)).wf = true) ∧ (∀ i, i < n → (S i).size ≤ maxLen) := by
  rcases open_slice_pairs Try.underlying22 Try.underlying75 Try.cells75 rfl rfl Try.cells42 Try.cells9 h with ⟨hcs, _⟩ | ⟨y, len, c, m, f, V0, V1, D0, D1, P0, P1, hcs, _, hl, hm, hmm, _, hx⟩
  · simp at hcs
    obtain ⟨rfl, rfl, rfl⟩ := hcs
    exact ⟨Nat.zero_le _, fun _ => 0, fun _ => ByteArray.empty, fun i hi => by omega, fun i hi => by omega, fun i hi => by omega⟩
  · simp at hcs
    obtain ⟨rfl, rfl, rfl⟩ := hcs
    simp only [if_true] at hmm
    have each : ∀ i, i < n → ∃ q : Int × ByteArray, V0 i = .int .u32 q.1 ∧ V1 i = .string q.2 ∧ (Lit.int .u32 q.1).wf = true ∧ q.2.size ≤ maxLen := fun i hi => by
      obtain ⟨_, _, t0, t1⟩ := hx i (by omega)
      obtain ⟨k, e0, _, w0⟩ := DataW.trod_int Try.underlying42 t0
      obtain ⟨s, e1, _, w1⟩ := DataW.trod_string Try.underlying9 t1
      exact ⟨(k, s), by simpa using e0, by simpa using e1, w0, w1⟩
    obtain ⟨q, hq⟩ := choose_lt each
    refine ⟨by omega, fun i => (q i).1, fun i => (q i).2, fun i hi => ?_, fun i hi => (hq i hi).2.2.1, fun i hi => (hq i hi).2.2.2⟩
    obtain ⟨c0, c1, _, _⟩ := hx i (by omega)
    obtain ⟨b, off, rfl, hb, hadd⟩ := plain_at (by simpa using (hx 0 (by omega)).1)
    rw [hadd] at c0 c1
    exact ⟨b, off, rfl, hb, by rw [c0, (hq i hi).1], by rw [← Nat.add_assoc] at c1; rw [c1, (hq i hi).2.1]⟩

theorem open_moves {H : Type} {enc : TypeId × Value → H} {W : World} {fuel : Nat} {a : Option Addr} {n cap : Nat} {x : DataW H × List MemPlace}
    (h : DataW.trod enc Try.prog W 0 (fun _ => true) true fuel 25 [.slice a n cap] = some x) :
    n ≤ maxLen ∧ (a = none → n = 0 ∧ cap = 0) ∧ ∃ F T, MovesAt W a n F T ∧ (∀ i, i < n → (Lit.int .u32 (F i)).wf = true) ∧ (∀ i, i < n → (Lit.int .u32 (T i)).wf = true) := by
  rcases open_slice_pairs Try.underlying25 Try.underlying81 Try.cells81 rfl rfl Try.cells42 Try.cells42 h with ⟨hcs, _⟩ | ⟨y, len, c, m, f, V0, V1, D0, D1, P0, P1, hcs, _, hl, hm, hmm, _, hx⟩
  · simp at hcs
    obtain ⟨rfl, rfl, rfl⟩ := hcs
    exact ⟨Nat.zero_le _, fun _ => ⟨rfl, rfl⟩, fun _ => 0, fun _ => 0, fun i hi => by omega, fun i hi => by omega, fun i hi => by omega⟩
  · simp at hcs
    obtain ⟨rfl, rfl, rfl⟩ := hcs
    simp only [if_true] at hmm
    have each : ∀ i, i < n → ∃ q : Int × Int, V0 i = .int .u32 q.1 ∧ V1 i = .int .u32 q.2 ∧ (Lit.int .u32 q.1).wf = true ∧ (Lit.int .u32 q.2).wf = true := fun i hi => by
      obtain ⟨_, _, t0, t1⟩ := hx i (by omega)
      obtain ⟨k, e0, _, w0⟩ := DataW.trod_int Try.underlying42 t0
      obtain ⟨s, e1, _, w1⟩ := DataW.trod_int Try.underlying42 t1
      exact ⟨(k, s), by simpa using e0, by simpa using e1, w0, w1⟩
    obtain ⟨q, hq⟩ := choose_lt each
    refine ⟨by omega, (fun h => by cases h), fun i => (q i).1, fun i => (q i).2, fun i hi => ?_, fun i hi => (hq i hi).2.2.1, fun i hi => (hq i hi).2.2.2⟩
    obtain ⟨c0, c1, _, _⟩ := hx i (by omega)
    obtain ⟨b, off, rfl, hb, hadd⟩ := plain_at (by simpa using (hx 0 (by omega)).1)
    rw [hadd] at c0 c1
    exact ⟨b, off, rfl, hb, by rw [c0, (hq i hi).1], by rw [← Nat.add_assoc] at c1; rw [c1, (hq i hi).2.1]⟩

set_option maxRecDepth 100000 in
theorem lifted4 (os : Os) (started : os.Started) (H : Type) (enc : TypeId × Value → H) :
    ReturnsInHanded {} Try.checked os 4 .any (Rows.fnBindsOverUnchangedRuleSetOnlyWhenOddSpec.pre6 enc Try.prog Try.f4 Rows.fnBindsOverUnchangedRuleSetOnlyWhenOddRow.domain false) (Rows.fnBindsOverUnchangedRuleSetOnlyWhenOddSpec.post enc Try.prog Try.f4 false true false false) := by
  refine returnsInHanded_of_change (C := Try.checked) own started (by kernel_rfl) Try.func4
    (ChangeSpec.witness6 (enc := enc) (C := Try.checked) false ⟨#[], #[.agg #[.slice none 0 0, .string ByteArray.empty, .bool false], .slice none 0 0], []⟩ 8 (by kernel_rfl) (by kernel_rfl) (by kernel_rfl) (by kernel_rfl)) ?_
  intro W base args ds gs before hval0 hW hcnd _
  have hval : ∀ (j : Nat) t v, Try.f4.params[j]? = some t → args[j]? = some v → Value.okWide Try.prog W .any base t v := hval0
  have hW' := hW
  obtain ⟨p, q, hA0, hV, rfl, hfz, hnd⟩ := hW
  have hA : DataW.TrodAll enc Try.prog W 0 (fun _ => true) true Try.f4.params.toList args.toList ds p := hA0
  rw [Try.params4] at hA hval
  obtain ⟨v0, v1, d0, d1, p0, p1, rfl, rfl, rfl, h0, h1⟩ := trodAll_two hA
  obtain ⟨rfl, rfl⟩ := trodVars_none hV
  have k0 := h0
  have k1 := h1
  have lt0 : ∀ x ∈ p0, x.block < W.heap.size := by obtain ⟨m, hm⟩ := k0; exact DataW.trod_lt m _ _ _ hm
  have lt1 : ∀ x ∈ p1, x.block < W.heap.size := by obtain ⟨m, hm⟩ := k1; exact DataW.trod_lt m _ _ _ hm
  obtain ⟨c0, c1, c2, y0, y1, y2, m, rfl, hd0, hp0, t0, t1, t2⟩ := open_agg3 Try.underlying24 (by kernel_rfl) Try.cells24 (hval 0 24 v0 rfl rfl) h0
  obtain ⟨any, e1, _, hany⟩ := DataW.trod_string Try.underlying9 t1
  obtain ⟨odd, e2, _⟩ := DataW.trod_bool Try.underlying4 t2
  simp at e1 e2
  subst e1 e2
  obtain ⟨a, n, cap, rfl⟩ : ∃ a n cap, c0 = .slice a n cap := by
    rcases open_slice Try.underlying22 t0 with ⟨hcs, _⟩ | ⟨a, len, cap, _, _, _, _, hcs, _⟩
    · simp at hcs; exact ⟨_, _, _, hcs⟩
    · simp at hcs; exact ⟨_, _, _, hcs⟩
  obtain ⟨hn, I, S, hc, hI, hs⟩ := open_cells t0
  obtain ⟨ma, ml, mc, rfl⟩ := okWide_slice Try.underlying25 (hval 1 25 v1 rfl rfl)
  obtain ⟨f1, hf1⟩ := h1
  obtain ⟨hml, hma, F, T, hm, hF, hT⟩ := open_moves (by simpa [Value.cells] using hf1)
  clear hA0 hval0
  refine (walk4 a n cap I S any odd ma ml mc F T W hn hml hc hI hs hany hm hF hT hma).mono fun e W' ⟨he, bel⟩ => ?_
  subst he
  exact ⟨_, rfl, _, _, _, [], _, [], hW', trodAll_mk1 (shut_bool Try.underlying4 _), trodAll_mk2 (Below.trod laidOut (by kernel_rfl) (of_decide_eq_true (by kernel_rfl)) k0 bel lt0) (Below.trod laidOut (by kernel_rfl) (of_decide_eq_true (by kernel_rfl)) k1 bel lt1), rfl, bel.frame _, fun h => by cases h⟩

theorem over4 : Rows.fnBindsOverUnchangedRuleSetOnlyWhenOddRow.holds Try.pinned (OpenSpec.ofChange Rows.fnBindsOverUnchangedRuleSetOnlyWhenOddSpec) :=
  OpenClaim.holds_of_wide 4 Try.f4 rfl rfl rfl rfl rfl rfl rfl ⟨rfl, rfl, rfl, rfl, rfl⟩ rfl rfl rfl rfl rfl (by kernel_rfl) Try.func4 (by kernel_rfl)
    (of_decide_eq_true (by kernel_rfl)) (by unfold Func.isWrapper; first | (rw [if_pos (by decide +kernel)]; kernel_rfl) | (rw [if_neg (by decide +kernel)]; exact ⟨rfl, rfl⟩))
    (fun os started H enc _ => lifted4 os started H enc)

theorem fnBindsOverUnchangedRuleSetOnlyWhenOdd_proved : Rows.FnBindsOverUnchangedRuleSetOnlyWhenOddSaid := over4
end Go.Proofs.Qxb6602988a
