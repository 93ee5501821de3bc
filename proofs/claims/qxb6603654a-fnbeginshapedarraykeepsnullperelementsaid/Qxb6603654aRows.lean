/-
  No cell of these rows narrows 'for every input' (looked for: loops, veiled, ifaces, maps, wideKeys, modest, calm, conditions, laid).
  DERIVED. THE GIVEN ROWS OF THIS SEAT. 2 by the template 'for every input the law returns true; each argument reads behind the call as it read before'; 0 by the template 'total and deterministic' (their statements: Qxb6603654aTotals.lean).
  GIVEN WITH THE SEED: the statements are not yours to turn. If you find one false, say at which input.
  Laid BY PROGRAM, IN A SANDBOX (cutbox-rows.mjs): the forced cells as the released guide's own fill.sh prints them over the translation 191a285115173e31… (all of the seat's roots in one cut). By AI agents, Wed Nov 11 2026. No macro, syntax, notation, axiom, sorry.
-/
import Derived.Test.Qxb6603654aChecked
import GoSem.Claim
import GoSem.ClaimJoined
import GoSem.ClaimMapViews
import Derived.JoinedTies
import Derived.KernelRfl
namespace Go.Proofs.Qxb6603654a
/- THE CELL 'sum', in the pinned program and in every row, IS THE sha256 OF THE DUMP (.gsa) THAT Qxb6603654aProg.lean LOADS. Nothing in Lean hashes anything: it is a label: what it is worth is what the hold of that sum in a sandbox is worth. -/
noncomputable def Try.pinned : Pinned := { name := "qxb6603654a", sum := "191a285115173e310717177a57302c022a8e6514756432a2393753d51add66d6", checked := Try.checked }
namespace Rows
def none {H : Type} : Left H := { results := [], args := [] }

/-- 'zzlaws_provider_b1.FnBeginShapedArrayKeepsNullPerElement': WHATEVER THE INPUT: true; the input reads as it did. -/
def fnBeginShapedArrayKeepsNullPerElementSpec : ChangeSpec := { name := "fnBeginShapedArrayKeepsNullPerElement", fn := fun _ => fun
  | [d1, d2] => { results := [.lit (.bool true)], args := [d1, d2] }
  | _ => none }
def fnBeginShapedArrayKeepsNullPerElementRow : OpenClaim := { program := "qxb6603654a", sum := "191a285115173e310717177a57302c022a8e6514756432a2393753d51add66d6", func := "example.com/bare-trace/bare-trace/zzlaws_provider_b1.FnBeginShapedArrayKeepsNullPerElement", spec := "fnBeginShapedArrayKeepsNullPerElement", apart := false }
def FnBeginShapedArrayKeepsNullPerElementSaid : Prop := fnBeginShapedArrayKeepsNullPerElementRow.holds Try.pinned (OpenSpec.ofChange fnBeginShapedArrayKeepsNullPerElementSpec)

/-- ITS FALSE NEIGHBOUR: 'it returns false'. Refute it at one input. -/
def fnBeginShapedArrayKeepsNullPerElementWrong : ChangeSpec := { name := "fnBeginShapedArrayKeepsNullPerElement", fn := fun _ => fun
  | [d1, d2] => { results := [.lit (.bool false)], args := [d1, d2] }
  | _ => none }
def FnBeginShapedArrayKeepsNullPerElementWrongFalsely : Prop := fnBeginShapedArrayKeepsNullPerElementRow.holds Try.pinned (OpenSpec.ofChange fnBeginShapedArrayKeepsNullPerElementWrong)

/-- 'zzlaws_provider_b1.FnEndsReadsTheTypeAlone': WHATEVER THE INPUT: true; the input reads as it did. -/
def fnEndsReadsTheTypeAloneSpec : ChangeSpec := { name := "fnEndsReadsTheTypeAlone", fn := fun _ => fun
  | [d1, d2, d3, d4] => { results := [.lit (.bool true)], args := [d1, d2, d3, d4] }
  | _ => none }
def fnEndsReadsTheTypeAloneRow : OpenClaim := { program := "qxb6603654a", sum := "191a285115173e310717177a57302c022a8e6514756432a2393753d51add66d6", func := "example.com/bare-trace/bare-trace/zzlaws_provider_b1.FnEndsReadsTheTypeAlone", spec := "fnEndsReadsTheTypeAlone", apart := false }
def FnEndsReadsTheTypeAloneSaid : Prop := fnEndsReadsTheTypeAloneRow.holds Try.pinned (OpenSpec.ofChange fnEndsReadsTheTypeAloneSpec)

/-- ITS FALSE NEIGHBOUR: 'it returns false'. Refute it at one input. -/
def fnEndsReadsTheTypeAloneWrong : ChangeSpec := { name := "fnEndsReadsTheTypeAlone", fn := fun _ => fun
  | [d1, d2, d3, d4] => { results := [.lit (.bool false)], args := [d1, d2, d3, d4] }
  | _ => none }
def FnEndsReadsTheTypeAloneWrongFalsely : Prop := fnEndsReadsTheTypeAloneRow.holds Try.pinned (OpenSpec.ofChange fnEndsReadsTheTypeAloneWrong)

end Rows
end Go.Proofs.Qxb6603654a
