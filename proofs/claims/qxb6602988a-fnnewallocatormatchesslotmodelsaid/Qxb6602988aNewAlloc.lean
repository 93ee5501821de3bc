/-
  'Rows.FnNewAllocatorMatchesSlotModelSaid' proved.
-/
import Derived.Test.Qxb6602988aOpen
import Derived.Test.Qxb6602988aN4
namespace Go.Proofs.Qxb6602988a
open Go.ChangeShapes Go.WideShapes Go.ChangeAt Go.RowKit Go.Deep
set_option linter.unusedVariables false
set_option linter.unusedSimpArgs false

set_option maxRecDepth 100000 in
theorem lifted5 (os : Os) (started : os.Started) (H : Type) (enc : TypeId × Value → H) :
    ReturnsInHanded {} Try.checked os 5 .any (Rows.fnNewAllocatorMatchesSlotModelSpec.pre6 enc Try.prog Try.f5 Rows.fnNewAllocatorMatchesSlotModelRow.domain false) (Rows.fnNewAllocatorMatchesSlotModelSpec.post enc Try.prog Try.f5 false true false false) := by
  refine returnsInHanded_of_change (C := Try.checked) own' started (by kernel_rfl) Try.func5
    (ChangeSpec.witness6 (enc := enc) (C := Try.checked) false ⟨#[], #[.int .i64 0, .slice none 0 0, .slice none 0 0], []⟩ 5 (by kernel_rfl) (by kernel_rfl) (by kernel_rfl) (by kernel_rfl)) ?_
  intro W base args ds gs before hval0 hW hcnd _
  have hval : ∀ (j : Nat) t v, Try.f5.params[j]? = some t → args[j]? = some v → Value.okWide Try.prog W .any base t v := hval0
  have hW' := hW
  obtain ⟨p, q, hA0, hV, rfl, hfz, hnd⟩ := hW
  have hA : DataW.TrodAll enc Try.prog W 0 (fun _ => true) true Try.f5.params.toList args.toList ds p := hA0
  rw [Try.params5] at hA hval
  obtain ⟨v0, v1, v2, d0, d1, d2, p0, p1, p2, rfl, rfl, rfl, h0, h1, h2⟩ := trodAll_three hA
  obtain ⟨rfl, rfl⟩ := trodVars_none hV
  have k1 := h1
  have k2 := h2
  have lt1 : ∀ x ∈ p1, x.block < W.heap.size := by obtain ⟨m, hm⟩ := k1; exact DataW.trod_lt m _ _ _ hm
  have lt2 : ∀ x ∈ p2, x.block < W.heap.size := by obtain ⟨m, hm⟩ := k2; exact DataW.trod_lt m _ _ _ hm
  obtain ⟨hw, rfl, rfl, rfl, whw⟩ := open_int Try.underlying3 (hval 0 3 v0 rfl rfl) h0
  obtain ⟨ua, un, uc, rfl⟩ := okWide_slice Try.underlying35 (hval 1 35 v1 rfl rfl)
  obtain ⟨aa, an, ac, rfl⟩ := okWide_slice Try.underlying35 (hval 2 35 v2 rfl rfl)
  obtain ⟨f1, hf1⟩ := h1
  obtain ⟨f2, hf2⟩ := h2
  obtain ⟨l1, A, V, P, hu, hA1, hV1, hP1⟩ := open_slots (by simpa [Value.cells] using hf1)
  obtain ⟨l2, A2, V2, P2, ha, hA2, hV2, hP2⟩ := open_slots (by simpa [Value.cells] using hf2)
  clear hA0 hval0
  refine (walk5 hw ua aa un uc an ac A V P A2 V2 P2 W l1 l2 hu ha hA1 hV1 hP1 hA2 hV2 hP2).mono fun e W' ⟨he, bel⟩ => ?_
  subst he
  exact ⟨_, rfl, _, _, _, [], _, [], hW', trodAll_mk1 (shut_bool Try.underlying4 _), trodAll_mk3 (shut_int Try.underlying3 whw) (Below.trod laidOut' (by kernel_rfl) (of_decide_eq_true (by kernel_rfl)) k1 bel lt1) (Below.trod laidOut' (by kernel_rfl) (of_decide_eq_true (by kernel_rfl)) k2 bel lt2), rfl, bel.frame _, fun h => by cases h⟩

theorem over5 : Rows.fnNewAllocatorMatchesSlotModelRow.holds Try.pinned (OpenSpec.ofChange Rows.fnNewAllocatorMatchesSlotModelSpec) :=
  OpenClaim.holds_of_wide 5 Try.f5 rfl rfl rfl rfl rfl rfl rfl ⟨rfl, rfl, rfl, rfl, rfl⟩ rfl rfl rfl rfl rfl (by kernel_rfl) Try.func5 (by kernel_rfl)
    (of_decide_eq_true (by kernel_rfl)) (by unfold Func.isWrapper; first | (rw [if_pos (by decide +kernel)]; kernel_rfl) | (rw [if_neg (by decide +kernel)]; exact ⟨rfl, rfl⟩))
    (fun os started H enc _ => lifted5 os started H enc)

theorem fnNewAllocatorMatchesSlotModel_proved : Rows.FnNewAllocatorMatchesSlotModelSaid := over5
end Go.Proofs.Qxb6602988a
