/-
  No cell of these rows narrows 'for every input' (looked for: loops, veiled, ifaces, maps, wideKeys, modest, calm, conditions, laid).
  DERIVED. THE GIVEN ROWS OF THIS SEAT. 2 by the template 'for every input the law returns true; each argument reads behind the call as it read before'; 0 by the template 'total and deterministic' (their statements: Qxb6627451aTotals.lean).
  GIVEN WITH THE SEED: the statements are not yours to turn. If you find one false, say at which input.
  Laid BY PROGRAM, IN A SANDBOX (cutbox-rows.mjs): the forced cells as the released guide's own fill.sh prints them over the translation 4503f2c84f7234a5… (all of the seat's roots in one cut). By AI agents, Wed Nov 11 2026. No macro, syntax, notation, axiom, sorry.
-/
import Derived.Test.Qxb6627451aChecked
import GoSem.Claim
import GoSem.ClaimJoined
import GoSem.ClaimMapViews
import Derived.JoinedTies
import Derived.KernelRfl
namespace Go.Proofs.Qxb6627451a
/- THE CELL 'sum', in the pinned program and in every row, IS THE sha256 OF THE DUMP (.gsa) THAT Qxb6627451aProg.lean LOADS. Nothing in Lean hashes anything: it is a label: what it is worth is what the hold of that sum in a sandbox is worth. -/
noncomputable def Try.pinned : Pinned := { name := "qxb6627451a", sum := "4503f2c84f7234a5efec83d6c13d39cce3d89e503a0af483fac30ed4710b4b0f", checked := Try.checked }
namespace Rows
def none {H : Type} : Left H := { results := [], args := [] }

/-- 'zzlaws_root_b1.FnMergeIsPointwiseMaxBothWays': WHATEVER THE INPUT: true; the input reads as it did. -/
def fnMergeIsPointwiseMaxBothWaysSpec : ChangeSpec := { name := "fnMergeIsPointwiseMaxBothWays", fn := fun _ => fun
  | [d1, d2, d3, d4] => { results := [.lit (.bool true)], args := [d1, d2, d3, d4] }
  | _ => none }
def fnMergeIsPointwiseMaxBothWaysRow : OpenClaim := { program := "qxb6627451a", sum := "4503f2c84f7234a5efec83d6c13d39cce3d89e503a0af483fac30ed4710b4b0f", func := "example.com/vantage/vantage/zzlaws_root_b1.FnMergeIsPointwiseMaxBothWays", spec := "fnMergeIsPointwiseMaxBothWays", apart := false }
def FnMergeIsPointwiseMaxBothWaysSaid : Prop := fnMergeIsPointwiseMaxBothWaysRow.holds Try.pinned (OpenSpec.ofChange fnMergeIsPointwiseMaxBothWaysSpec)

/-- ITS FALSE NEIGHBOUR: 'it returns false'. Refute it at one input. -/
def fnMergeIsPointwiseMaxBothWaysWrong : ChangeSpec := { name := "fnMergeIsPointwiseMaxBothWays", fn := fun _ => fun
  | [d1, d2, d3, d4] => { results := [.lit (.bool false)], args := [d1, d2, d3, d4] }
  | _ => none }
def FnMergeIsPointwiseMaxBothWaysWrongFalsely : Prop := fnMergeIsPointwiseMaxBothWaysRow.holds Try.pinned (OpenSpec.ofChange fnMergeIsPointwiseMaxBothWaysWrong)

/-- 'zzlaws_root_b1.FnMergeIsAssociativeIdempotentAndFresh': WHATEVER THE INPUT: true; the input reads as it did. -/
def fnMergeIsAssociativeIdempotentAndFreshSpec : ChangeSpec := { name := "fnMergeIsAssociativeIdempotentAndFresh", fn := fun _ => fun
  | [d1, d2, d3, d4, d5, d6] => { results := [.lit (.bool true)], args := [d1, d2, d3, d4, d5, d6] }
  | _ => none }
def fnMergeIsAssociativeIdempotentAndFreshRow : OpenClaim := { program := "qxb6627451a", sum := "4503f2c84f7234a5efec83d6c13d39cce3d89e503a0af483fac30ed4710b4b0f", func := "example.com/vantage/vantage/zzlaws_root_b1.FnMergeIsAssociativeIdempotentAndFresh", spec := "fnMergeIsAssociativeIdempotentAndFresh", apart := false }
def FnMergeIsAssociativeIdempotentAndFreshSaid : Prop := fnMergeIsAssociativeIdempotentAndFreshRow.holds Try.pinned (OpenSpec.ofChange fnMergeIsAssociativeIdempotentAndFreshSpec)

/-- ITS FALSE NEIGHBOUR: 'it returns false'. Refute it at one input. -/
def fnMergeIsAssociativeIdempotentAndFreshWrong : ChangeSpec := { name := "fnMergeIsAssociativeIdempotentAndFresh", fn := fun _ => fun
  | [d1, d2, d3, d4, d5, d6] => { results := [.lit (.bool false)], args := [d1, d2, d3, d4, d5, d6] }
  | _ => none }
def FnMergeIsAssociativeIdempotentAndFreshWrongFalsely : Prop := fnMergeIsAssociativeIdempotentAndFreshRow.holds Try.pinned (OpenSpec.ofChange fnMergeIsAssociativeIdempotentAndFreshWrong)

end Rows
end Go.Proofs.Qxb6627451a
