/-
  No cell of these rows narrows 'for every input' (looked for: loops, veiled, ifaces, maps, wideKeys, modest, calm, conditions, laid).
  DERIVED. THE GIVEN ROWS OF THIS SEAT. 2 by the template 'for every input the law returns true; each argument reads behind the call as it read before'; 0 by the template 'total and deterministic' (their statements: Qxb6627541aTotals.lean).
  GIVEN WITH THE SEED: the statements are not yours to turn. If you find one false, say at which input.
  Laid BY PROGRAM, IN A SANDBOX (cutbox-rows.mjs): the forced cells as the released guide's own fill.sh prints them over the translation 9ffce5eb71a54abc… (all of the seat's roots in one cut). By AI agents, Wed Nov 11 2026. No macro, syntax, notation, axiom, sorry.
-/
import Derived.Test.Qxb6627541aChecked
import GoSem.Claim
import GoSem.ClaimJoined
import GoSem.ClaimMapViews
import Derived.JoinedTies
import Derived.KernelRfl
namespace Go.Proofs.Qxb6627541a
/- THE CELL 'sum', in the pinned program and in every row, IS THE sha256 OF THE DUMP (.gsa) THAT Qxb6627541aProg.lean LOADS. Nothing in Lean hashes anything: it is a label: what it is worth is what the hold of that sum in a sandbox is worth. -/
noncomputable def Try.pinned : Pinned := { name := "qxb6627541a", sum := "9ffce5eb71a54abcacfd0304ed780cf87dc2098a6c2065bad538447fedcf7e45", checked := Try.checked }
namespace Rows
def none {H : Type} : Left H := { results := [], args := [] }

/-- 'zzlaws_internal_metrics_b1.FnObserveBucketIsCountOfBoundsBelow': WHATEVER THE INPUT: true; the input reads as it did. -/
def fnObserveBucketIsCountOfBoundsBelowSpec : ChangeSpec := { name := "fnObserveBucketIsCountOfBoundsBelow", fn := fun _ => fun
  | [d1, d2, d3, d4] => { results := [.lit (.bool true)], args := [d1, d2, d3, d4] }
  | _ => none }
def fnObserveBucketIsCountOfBoundsBelowRow : OpenClaim := { program := "qxb6627541a", sum := "9ffce5eb71a54abcacfd0304ed780cf87dc2098a6c2065bad538447fedcf7e45", func := "example.com/fairgate/fairgate/zzlaws_internal_metrics_b1.FnObserveBucketIsCountOfBoundsBelow", spec := "fnObserveBucketIsCountOfBoundsBelow", apart := false }
def FnObserveBucketIsCountOfBoundsBelowSaid : Prop := fnObserveBucketIsCountOfBoundsBelowRow.holds Try.pinned (OpenSpec.ofChange fnObserveBucketIsCountOfBoundsBelowSpec)

/-- ITS FALSE NEIGHBOUR: 'it returns false'. Refute it at one input. -/
def fnObserveBucketIsCountOfBoundsBelowWrong : ChangeSpec := { name := "fnObserveBucketIsCountOfBoundsBelow", fn := fun _ => fun
  | [d1, d2, d3, d4] => { results := [.lit (.bool false)], args := [d1, d2, d3, d4] }
  | _ => none }
def FnObserveBucketIsCountOfBoundsBelowWrongFalsely : Prop := fnObserveBucketIsCountOfBoundsBelowRow.holds Try.pinned (OpenSpec.ofChange fnObserveBucketIsCountOfBoundsBelowWrong)

/-- 'zzlaws_internal_metrics_b1.FnObserveSplitScriptAddsUp': WHATEVER THE INPUT: true; the input reads as it did. -/
def fnObserveSplitScriptAddsUpSpec : ChangeSpec := { name := "fnObserveSplitScriptAddsUp", fn := fun _ => fun
  | [d1, d2, d3, d4, d5] => { results := [.lit (.bool true)], args := [d1, d2, d3, d4, d5] }
  | _ => none }
def fnObserveSplitScriptAddsUpRow : OpenClaim := { program := "qxb6627541a", sum := "9ffce5eb71a54abcacfd0304ed780cf87dc2098a6c2065bad538447fedcf7e45", func := "example.com/fairgate/fairgate/zzlaws_internal_metrics_b1.FnObserveSplitScriptAddsUp", spec := "fnObserveSplitScriptAddsUp", apart := false }
def FnObserveSplitScriptAddsUpSaid : Prop := fnObserveSplitScriptAddsUpRow.holds Try.pinned (OpenSpec.ofChange fnObserveSplitScriptAddsUpSpec)

/-- ITS FALSE NEIGHBOUR: 'it returns false'. Refute it at one input. -/
def fnObserveSplitScriptAddsUpWrong : ChangeSpec := { name := "fnObserveSplitScriptAddsUp", fn := fun _ => fun
  | [d1, d2, d3, d4, d5] => { results := [.lit (.bool false)], args := [d1, d2, d3, d4, d5] }
  | _ => none }
def FnObserveSplitScriptAddsUpWrongFalsely : Prop := fnObserveSplitScriptAddsUpRow.holds Try.pinned (OpenSpec.ofChange fnObserveSplitScriptAddsUpWrong)

end Rows
end Go.Proofs.Qxb6627541a
