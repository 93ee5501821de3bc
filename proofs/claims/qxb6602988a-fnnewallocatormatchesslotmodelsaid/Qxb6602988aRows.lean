/-
  No cell of these rows narrows 'for every input' (looked for: loops, veiled, ifaces, maps, wideKeys, modest, calm, conditions, laid).
  DERIVED. THE GIVEN ROWS OF THIS SEAT. 6 by the template 'for every input the law returns true; each argument reads behind the call as it read before'; 0 by the template 'total and deterministic' (their statements: Qxb6602988aTotals.lean).
  GIVEN WITH THE SEED: the statements are not yours to turn. If you find one false, say at which input.
  Laid BY PROGRAM, IN A SANDBOX (cutbox-rows.mjs): the forced cells as the released guide's own fill.sh prints them over the translation e009279f891900a9… (all of the seat's roots in one cut). By AI agents, Wed Nov 11 2026. No macro, syntax, notation, axiom, sorry.
-/
import Derived.Test.Qxb6602988aChecked
import GoSem.Claim
import GoSem.ClaimJoined
import GoSem.ClaimMapViews
import Derived.JoinedTies
import Derived.KernelRfl
namespace Go.Proofs.Qxb6602988a
/- THE CELL 'sum', in the pinned program and in every row, IS THE sha256 OF THE DUMP (.gsa) THAT Qxb6602988aProg.lean LOADS. Nothing in Lean hashes anything: it is a label: what it is worth is what the hold of that sum in a sandbox is worth. -/
noncomputable def Try.pinned : Pinned := { name := "qxb6602988a", sum := "e009279f891900a985eda81e16687a9b05a022f39004ef4ceb74604faa950fea", checked := Try.checked }
namespace Rows
def none {H : Type} : Left H := { results := [], args := [] }

/-- 'zzlaws_share_b1.FnBindsOfJoinedMovesIsEitherHalf': WHATEVER THE INPUT: true; the input reads as it did. -/
def fnBindsOfJoinedMovesIsEitherHalfSpec : ChangeSpec := { name := "fnBindsOfJoinedMovesIsEitherHalf", fn := fun _ => fun
  | [d1, d2, d3, d4] => { results := [.lit (.bool true)], args := [d1, d2, d3, d4] }
  | _ => none }
def fnBindsOfJoinedMovesIsEitherHalfRow : OpenClaim := { program := "qxb6602988a", sum := "e009279f891900a985eda81e16687a9b05a022f39004ef4ceb74604faa950fea", func := "example.com/isthmus/isthmus/zzlaws_share_b1.FnBindsOfJoinedMovesIsEitherHalf", spec := "fnBindsOfJoinedMovesIsEitherHalf", plainKeys := false, apart := false }
def FnBindsOfJoinedMovesIsEitherHalfSaid : Prop := fnBindsOfJoinedMovesIsEitherHalfRow.holds Try.pinned (OpenSpec.ofChange fnBindsOfJoinedMovesIsEitherHalfSpec)

/-- ITS FALSE NEIGHBOUR: 'it returns false'. Refute it at one input. -/
def fnBindsOfJoinedMovesIsEitherHalfWrong : ChangeSpec := { name := "fnBindsOfJoinedMovesIsEitherHalf", fn := fun _ => fun
  | [d1, d2, d3, d4] => { results := [.lit (.bool false)], args := [d1, d2, d3, d4] }
  | _ => none }
def FnBindsOfJoinedMovesIsEitherHalfWrongFalsely : Prop := fnBindsOfJoinedMovesIsEitherHalfRow.holds Try.pinned (OpenSpec.ofChange fnBindsOfJoinedMovesIsEitherHalfWrong)

/-- 'zzlaws_share_b1.FnBindsOverUnchangedRuleSetOnlyWhenOdd': WHATEVER THE INPUT: true; the input reads as it did. -/
def fnBindsOverUnchangedRuleSetOnlyWhenOddSpec : ChangeSpec := { name := "fnBindsOverUnchangedRuleSetOnlyWhenOdd", fn := fun _ => fun
  | [d1, d2] => { results := [.lit (.bool true)], args := [d1, d2] }
  | _ => none }
def fnBindsOverUnchangedRuleSetOnlyWhenOddRow : OpenClaim := { program := "qxb6602988a", sum := "e009279f891900a985eda81e16687a9b05a022f39004ef4ceb74604faa950fea", func := "example.com/isthmus/isthmus/zzlaws_share_b1.FnBindsOverUnchangedRuleSetOnlyWhenOdd", spec := "fnBindsOverUnchangedRuleSetOnlyWhenOdd", plainKeys := false, apart := false }
def FnBindsOverUnchangedRuleSetOnlyWhenOddSaid : Prop := fnBindsOverUnchangedRuleSetOnlyWhenOddRow.holds Try.pinned (OpenSpec.ofChange fnBindsOverUnchangedRuleSetOnlyWhenOddSpec)

/-- ITS FALSE NEIGHBOUR: 'it returns false'. Refute it at one input. -/
def fnBindsOverUnchangedRuleSetOnlyWhenOddWrong : ChangeSpec := { name := "fnBindsOverUnchangedRuleSetOnlyWhenOdd", fn := fun _ => fun
  | [d1, d2] => { results := [.lit (.bool false)], args := [d1, d2] }
  | _ => none }
def FnBindsOverUnchangedRuleSetOnlyWhenOddWrongFalsely : Prop := fnBindsOverUnchangedRuleSetOnlyWhenOddRow.holds Try.pinned (OpenSpec.ofChange fnBindsOverUnchangedRuleSetOnlyWhenOddWrong)

/-- 'zzlaws_share_b1.FnNewAllocatorMatchesSlotModel': WHATEVER THE INPUT: true; the input reads as it did. -/
def fnNewAllocatorMatchesSlotModelSpec : ChangeSpec := { name := "fnNewAllocatorMatchesSlotModel", fn := fun _ => fun
  | [d1, d2, d3] => { results := [.lit (.bool true)], args := [d1, d2, d3] }
  | _ => none }
def fnNewAllocatorMatchesSlotModelRow : OpenClaim := { program := "qxb6602988a", sum := "e009279f891900a985eda81e16687a9b05a022f39004ef4ceb74604faa950fea", func := "example.com/isthmus/isthmus/zzlaws_share_b1.FnNewAllocatorMatchesSlotModel", spec := "fnNewAllocatorMatchesSlotModel", plainKeys := false, apart := false }
def FnNewAllocatorMatchesSlotModelSaid : Prop := fnNewAllocatorMatchesSlotModelRow.holds Try.pinned (OpenSpec.ofChange fnNewAllocatorMatchesSlotModelSpec)

/-- ITS FALSE NEIGHBOUR: 'it returns false'. Refute it at one input. -/
def fnNewAllocatorMatchesSlotModelWrong : ChangeSpec := { name := "fnNewAllocatorMatchesSlotModel", fn := fun _ => fun
  | [d1, d2, d3] => { results := [.lit (.bool false)], args := [d1, d2, d3] }
  | _ => none }
def FnNewAllocatorMatchesSlotModelWrongFalsely : Prop := fnNewAllocatorMatchesSlotModelRow.holds Try.pinned (OpenSpec.ofChange fnNewAllocatorMatchesSlotModelWrong)

/-- 'zzlaws_share_b1.FnNewAllocatorHigherWaterOnlyAddsFreeSlotsOnTop': WHATEVER THE INPUT: true; the input reads as it did. -/
def fnNewAllocatorHigherWaterOnlyAddsFreeSlotsOnTopSpec : ChangeSpec := { name := "fnNewAllocatorHigherWaterOnlyAddsFreeSlotsOnTop", fn := fun _ => fun
  | [d1, d2, d3, d4] => { results := [.lit (.bool true)], args := [d1, d2, d3, d4] }
  | _ => none }
def fnNewAllocatorHigherWaterOnlyAddsFreeSlotsOnTopRow : OpenClaim := { program := "qxb6602988a", sum := "e009279f891900a985eda81e16687a9b05a022f39004ef4ceb74604faa950fea", func := "example.com/isthmus/isthmus/zzlaws_share_b1.FnNewAllocatorHigherWaterOnlyAddsFreeSlotsOnTop", spec := "fnNewAllocatorHigherWaterOnlyAddsFreeSlotsOnTop", plainKeys := false, apart := false }
def FnNewAllocatorHigherWaterOnlyAddsFreeSlotsOnTopSaid : Prop := fnNewAllocatorHigherWaterOnlyAddsFreeSlotsOnTopRow.holds Try.pinned (OpenSpec.ofChange fnNewAllocatorHigherWaterOnlyAddsFreeSlotsOnTopSpec)

/-- ITS FALSE NEIGHBOUR: 'it returns false'. Refute it at one input. -/
def fnNewAllocatorHigherWaterOnlyAddsFreeSlotsOnTopWrong : ChangeSpec := { name := "fnNewAllocatorHigherWaterOnlyAddsFreeSlotsOnTop", fn := fun _ => fun
  | [d1, d2, d3, d4] => { results := [.lit (.bool false)], args := [d1, d2, d3, d4] }
  | _ => none }
def FnNewAllocatorHigherWaterOnlyAddsFreeSlotsOnTopWrongFalsely : Prop := fnNewAllocatorHigherWaterOnlyAddsFreeSlotsOnTopRow.holds Try.pinned (OpenSpec.ofChange fnNewAllocatorHigherWaterOnlyAddsFreeSlotsOnTopWrong)

/-- 'zzlaws_share_b1.FnTakeScriptMatchesLowestFreeSlotModel': WHATEVER THE INPUT: true; the input reads as it did. -/
def fnTakeScriptMatchesLowestFreeSlotModelSpec : ChangeSpec := { name := "fnTakeScriptMatchesLowestFreeSlotModel", fn := fun _ => fun
  | [d1, d2, d3, d4] => { results := [.lit (.bool true)], args := [d1, d2, d3, d4] }
  | _ => none }
def fnTakeScriptMatchesLowestFreeSlotModelRow : OpenClaim := { program := "qxb6602988a", sum := "e009279f891900a985eda81e16687a9b05a022f39004ef4ceb74604faa950fea", func := "example.com/isthmus/isthmus/zzlaws_share_b1.FnTakeScriptMatchesLowestFreeSlotModel", spec := "fnTakeScriptMatchesLowestFreeSlotModel", plainKeys := false, apart := false }
def FnTakeScriptMatchesLowestFreeSlotModelSaid : Prop := fnTakeScriptMatchesLowestFreeSlotModelRow.holds Try.pinned (OpenSpec.ofChange fnTakeScriptMatchesLowestFreeSlotModelSpec)

/-- ITS FALSE NEIGHBOUR: 'it returns false'. Refute it at one input. -/
def fnTakeScriptMatchesLowestFreeSlotModelWrong : ChangeSpec := { name := "fnTakeScriptMatchesLowestFreeSlotModel", fn := fun _ => fun
  | [d1, d2, d3, d4] => { results := [.lit (.bool false)], args := [d1, d2, d3, d4] }
  | _ => none }
def FnTakeScriptMatchesLowestFreeSlotModelWrongFalsely : Prop := fnTakeScriptMatchesLowestFreeSlotModelRow.holds Try.pinned (OpenSpec.ofChange fnTakeScriptMatchesLowestFreeSlotModelWrong)

/-- 'zzlaws_share_b1.FnTakeHandsEachFreeSlotOnceUntilNoneIsLeft': WHATEVER THE INPUT: true; the input reads as it did. -/
def fnTakeHandsEachFreeSlotOnceUntilNoneIsLeftSpec : ChangeSpec := { name := "fnTakeHandsEachFreeSlotOnceUntilNoneIsLeft", fn := fun _ => fun
  | [d1, d2, d3, d4] => { results := [.lit (.bool true)], args := [d1, d2, d3, d4] }
  | _ => none }
def fnTakeHandsEachFreeSlotOnceUntilNoneIsLeftRow : OpenClaim := { program := "qxb6602988a", sum := "e009279f891900a985eda81e16687a9b05a022f39004ef4ceb74604faa950fea", func := "example.com/isthmus/isthmus/zzlaws_share_b1.FnTakeHandsEachFreeSlotOnceUntilNoneIsLeft", spec := "fnTakeHandsEachFreeSlotOnceUntilNoneIsLeft", plainKeys := false, apart := false }
def FnTakeHandsEachFreeSlotOnceUntilNoneIsLeftSaid : Prop := fnTakeHandsEachFreeSlotOnceUntilNoneIsLeftRow.holds Try.pinned (OpenSpec.ofChange fnTakeHandsEachFreeSlotOnceUntilNoneIsLeftSpec)

/-- ITS FALSE NEIGHBOUR: 'it returns false'. Refute it at one input. -/
def fnTakeHandsEachFreeSlotOnceUntilNoneIsLeftWrong : ChangeSpec := { name := "fnTakeHandsEachFreeSlotOnceUntilNoneIsLeft", fn := fun _ => fun
  | [d1, d2, d3, d4] => { results := [.lit (.bool false)], args := [d1, d2, d3, d4] }
  | _ => none }
def FnTakeHandsEachFreeSlotOnceUntilNoneIsLeftWrongFalsely : Prop := fnTakeHandsEachFreeSlotOnceUntilNoneIsLeftRow.holds Try.pinned (OpenSpec.ofChange fnTakeHandsEachFreeSlotOnceUntilNoneIsLeftWrong)

end Rows
end Go.Proofs.Qxb6602988a
