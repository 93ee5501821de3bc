/-
  No cell of these rows narrows 'for every input' (looked for: loops, veiled, ifaces, maps, wideKeys, modest, calm, conditions, laid).
  DERIVED. THE GIVEN ROWS OF THIS SEAT. 2 by the template 'for every input the law returns true; each argument reads behind the call as it read before'; 0 by the template 'total and deterministic' (their statements: Qxb6603820aTotals.lean).
  GIVEN WITH THE SEED: the statements are not yours to turn. If you find one false, say at which input.
  Laid BY PROGRAM, IN A SANDBOX (cutbox-rows.mjs): the forced cells as the released guide's own fill.sh prints them over the translation f99f2c08c9902992… (all of the seat's roots in one cut). By AI agents, Wed Nov 11 2026. No macro, syntax, notation, axiom, sorry.
-/
import Derived.Test.Qxb6603820aChecked
import GoSem.Claim
import GoSem.ClaimJoined
import GoSem.ClaimMapViews
import Derived.JoinedTies
import Derived.KernelRfl
namespace Go.Proofs.Qxb6603820a
/- THE CELL 'sum', in the pinned program and in every row, IS THE sha256 OF THE DUMP (.gsa) THAT Qxb6603820aProg.lean LOADS. Nothing in Lean hashes anything: it is a label: what it is worth is what the hold of that sum in a sandbox is worth. -/
noncomputable def Try.pinned : Pinned := { name := "qxb6603820a", sum := "f99f2c08c99029923e788596a7ab1c7b44417d1e11a571202993ae777d5b409d", checked := Try.checked }
namespace Rows
def none {H : Type} : Left H := { results := [], args := [] }

/-- 'zzlaws_root_b1.FnKeysAreLeastReachingIndex': WHATEVER THE INPUT: true; the input reads as it did. -/
def fnKeysAreLeastReachingIndexSpec : ChangeSpec := { name := "fnKeysAreLeastReachingIndex", fn := fun _ => fun
  | [d1, d2] => { results := [.lit (.bool true)], args := [d1, d2] }
  | _ => none }
def fnKeysAreLeastReachingIndexRow : OpenClaim := { program := "qxb6603820a", sum := "f99f2c08c99029923e788596a7ab1c7b44417d1e11a571202993ae777d5b409d", func := "example.com/hookline/hookline/zzlaws_root_b1.FnKeysAreLeastReachingIndex", spec := "fnKeysAreLeastReachingIndex", apart := false }
def FnKeysAreLeastReachingIndexSaid : Prop := fnKeysAreLeastReachingIndexRow.holds Try.pinned (OpenSpec.ofChange fnKeysAreLeastReachingIndexSpec)

/-- ITS FALSE NEIGHBOUR: 'it returns false'. Refute it at one input. -/
def fnKeysAreLeastReachingIndexWrong : ChangeSpec := { name := "fnKeysAreLeastReachingIndex", fn := fun _ => fun
  | [d1, d2] => { results := [.lit (.bool false)], args := [d1, d2] }
  | _ => none }
def FnKeysAreLeastReachingIndexWrongFalsely : Prop := fnKeysAreLeastReachingIndexRow.holds Try.pinned (OpenSpec.ofChange fnKeysAreLeastReachingIndexWrong)

/-- 'zzlaws_root_b1.FnKeysAreRootedAndFallAlongEdges': WHATEVER THE INPUT: true; the input reads as it did. -/
def fnKeysAreRootedAndFallAlongEdgesSpec : ChangeSpec := { name := "fnKeysAreRootedAndFallAlongEdges", fn := fun _ => fun
  | [d1, d2] => { results := [.lit (.bool true)], args := [d1, d2] }
  | _ => none }
def fnKeysAreRootedAndFallAlongEdgesRow : OpenClaim := { program := "qxb6603820a", sum := "f99f2c08c99029923e788596a7ab1c7b44417d1e11a571202993ae777d5b409d", func := "example.com/hookline/hookline/zzlaws_root_b1.FnKeysAreRootedAndFallAlongEdges", spec := "fnKeysAreRootedAndFallAlongEdges", apart := false }
def FnKeysAreRootedAndFallAlongEdgesSaid : Prop := fnKeysAreRootedAndFallAlongEdgesRow.holds Try.pinned (OpenSpec.ofChange fnKeysAreRootedAndFallAlongEdgesSpec)

/-- ITS FALSE NEIGHBOUR: 'it returns false'. Refute it at one input. -/
def fnKeysAreRootedAndFallAlongEdgesWrong : ChangeSpec := { name := "fnKeysAreRootedAndFallAlongEdges", fn := fun _ => fun
  | [d1, d2] => { results := [.lit (.bool false)], args := [d1, d2] }
  | _ => none }
def FnKeysAreRootedAndFallAlongEdgesWrongFalsely : Prop := fnKeysAreRootedAndFallAlongEdgesRow.holds Try.pinned (OpenSpec.ofChange fnKeysAreRootedAndFallAlongEdgesWrong)

end Rows
end Go.Proofs.Qxb6603820a
