/-
  No cell of these rows narrows 'for every input' (looked for: loops, veiled, ifaces, maps, wideKeys, modest, calm, conditions, laid).
  DERIVED. THE GIVEN ROWS OF THIS SEAT. 1 by the template 'for every input the law returns true; each argument reads behind the call as it read before'; 0 by the template 'total and deterministic' (their statements: Qxb6627578aFmtTotals.lean).
  GIVEN WITH THE SEED: the statements are not yours to turn. If you find one false, say at which input.
  Laid BY PROGRAM, IN A SANDBOX (cutbox-rows.mjs): the forced cells as the released guide's own fill.sh prints them over the translation 8ac75a4465921e36… (all of the seat's roots in one cut). By AI agents, Wed Nov 11 2026. No macro, syntax, notation, axiom, sorry.
-/
import Derived.Test.Qxb6627578aFmtChecked
import GoSem.Claim
import GoSem.ClaimJoined
import GoSem.ClaimMapViews
import Derived.JoinedTies
import Derived.KernelRfl
namespace Go.Proofs.Qxb6627578aFmt
/- THE CELL 'sum', in the pinned program and in every row, IS THE sha256 OF THE DUMP (.gsa) THAT Qxb6627578aFmtProg.lean LOADS. Nothing in Lean hashes anything: it is a label: what it is worth is what the hold of that sum in a sandbox is worth. -/
noncomputable def Tryf.pinned : Pinned := { name := "qxb6627578afmt", sum := "8ac75a4465921e369484db611a08aca0118b904e4a49649e9dea5ec77f91aae9", checked := Tryf.checked }
namespace Rows
def none {H : Type} : Left H := { results := [], args := [] }

/-- 'zzlaws_peerwire_b1.FnParseBitfieldAcceptsExactlyMaskedPayloads': WHATEVER THE INPUT: true; the input reads as it did. -/
def fnParseBitfieldAcceptsExactlyMaskedPayloadsSpec : ChangeSpec := { name := "fnParseBitfieldAcceptsExactlyMaskedPayloads", fn := fun _ => fun
  | [d1, d2] => { results := [.lit (.bool true)], args := [d1, d2] }
  | _ => none }
def fnParseBitfieldAcceptsExactlyMaskedPayloadsRow : OpenClaim := { program := "qxb6627578afmt", sum := "8ac75a4465921e369484db611a08aca0118b904e4a49649e9dea5ec77f91aae9", func := "example.com/ledgerwire/ledgerwire/zzlaws_peerwire_b1.FnParseBitfieldAcceptsExactlyMaskedPayloads", spec := "fnParseBitfieldAcceptsExactlyMaskedPayloads", stops := ["fmt.errorf"], inPlace := ["fmt.errorf"], apart := false }
/-- NO THEOREM (fmt's text is open here; it may be false): for the released tool's asking of the row's closed facts alone. THE STATEMENT IS 'FnParseBitfieldAcceptsExactlyMaskedPayloadsToldSaid' (Qxb6627578aFmtCards.lean). -/
def FnParseBitfieldAcceptsExactlyMaskedPayloadsFormAsk : Prop := fnParseBitfieldAcceptsExactlyMaskedPayloadsRow.holds Tryf.pinned (OpenSpec.ofChange fnParseBitfieldAcceptsExactlyMaskedPayloadsSpec)

/-- ITS FALSE NEIGHBOUR: 'it returns false'. Refute it at one input. -/
def fnParseBitfieldAcceptsExactlyMaskedPayloadsWrong : ChangeSpec := { name := "fnParseBitfieldAcceptsExactlyMaskedPayloads", fn := fun _ => fun
  | [d1, d2] => { results := [.lit (.bool false)], args := [d1, d2] }
  | _ => none }
def FnParseBitfieldAcceptsExactlyMaskedPayloadsWrongFormAsk : Prop := fnParseBitfieldAcceptsExactlyMaskedPayloadsRow.holds Tryf.pinned (OpenSpec.ofChange fnParseBitfieldAcceptsExactlyMaskedPayloadsWrong)

end Rows
end Go.Proofs.Qxb6627578aFmt
