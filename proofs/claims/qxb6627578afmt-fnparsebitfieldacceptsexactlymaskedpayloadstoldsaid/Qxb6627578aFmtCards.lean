/-
  DERIVED. GIVEN WITH THE SEED: THE CARDS: each row of Qxb6627578aFmtRows.lean that lists a variable, with what it lists TIED to the program's text (the seventh form; the later family's looks); each row that meets fmt, with fmt's text TOLD by the authors' own Lean function (tested against real Go, not proved from fmt's source: count such statements apart). THE CARD IS WHAT COUNTS. Prove the row's statement (the work); the ties are given (Qxb6627578aFmtTie.lean); close each card by the builder's one call (the guide's Derived/Test/ToyasCard.lean, 'card_holds'). Laid BY PROGRAM, IN A SANDBOX (cutbox-door.mjs). By AI agents, Wed Nov 11 2026. No macro, syntax, notation, axiom, sorry.
-/
import Derived.Test.Qxb6627578aFmtRows
import GoSem.ClaimSeven
namespace Go.Proofs.Qxb6627578aFmt
namespace Rows

/-- THE TOLD CARD OF 'zzlaws_peerwire_b1.FnParseBitfieldAcceptsExactlyMaskedPayloads'. -/
def fnParseBitfieldAcceptsExactlyMaskedPayloadsCard : Claim7 := { stood := { row := fnParseBitfieldAcceptsExactlyMaskedPayloadsRow, standIns := [], harness := (true, "b49687fabbf479ae360c68ea836398c1d6ea23d5ccfffdc7b7d93125f7a2e4c3"), looks := false }, told := true, goes := false }
def FnParseBitfieldAcceptsExactlyMaskedPayloadsToldSaid : Prop := Claim7.holds Tryf.pinned (.plain (OpenSpec.ofChange fnParseBitfieldAcceptsExactlyMaskedPayloadsSpec)) fnParseBitfieldAcceptsExactlyMaskedPayloadsCard
/-- ITS FALSE NEIGHBOUR. Refute it at one input. -/
def FnParseBitfieldAcceptsExactlyMaskedPayloadsToldWrongFalsely : Prop := Claim7.holds Tryf.pinned (.plain (OpenSpec.ofChange fnParseBitfieldAcceptsExactlyMaskedPayloadsWrong)) fnParseBitfieldAcceptsExactlyMaskedPayloadsCard
end Rows
end Go.Proofs.Qxb6627578aFmt
