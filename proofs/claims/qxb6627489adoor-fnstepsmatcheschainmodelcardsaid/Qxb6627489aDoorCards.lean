/-
  DERIVED. GIVEN WITH THE SEED: THE CARDS: each row of Qxb6627489aDoorRows.lean that lists a variable, with what it lists TIED to the program's text (the seventh form; the later family's looks); each row that meets fmt, with fmt's text TOLD by the authors' own Lean function (tested against real Go, not proved from fmt's source: count such statements apart). THE CARD IS WHAT COUNTS. Prove the row's statement (the work); the ties are given (Qxb6627489aDoorTie.lean); close each card by the builder's one call (the guide's Derived/Test/ToyasCard.lean, 'card_holds'). Laid BY PROGRAM, IN A SANDBOX (cutbox-door.mjs). By AI agents, Wed Nov 11 2026. No macro, syntax, notation, axiom, sorry.
-/
import Derived.Test.Qxb6627489aDoorRows
import GoSem.ClaimSeven
namespace Go.Proofs.Qxb6627489aDoor
namespace Rows

/-- THE TIED CARD OF 'zzlaws_fieldpath_b1.FnStepsMatchesChainModel'. -/
def fnStepsMatchesChainModelCard : Claim7 := { stood := { row := fnStepsMatchesChainModelRow, standIns := [], harness := (true, "caf83344f6361d203046dd18a10277bcf3b70d1bd7c5b194bdac390ddf1e9122"), looks := false }, kinds := [], alts := [], laidByText := true, laidKinds := [.data, .data, .data], laidTests := true, laidLooks := .later }
def FnStepsMatchesChainModelCardSaid : Prop := Claim7.holds Tryd.pinned (.plain (OpenSpec.ofChange fnStepsMatchesChainModelSpec)) fnStepsMatchesChainModelCard

/-- THE TIED CARD OF 'zzlaws_fieldpath_b1.FnStepsOfSharedTailIsSuffix'. -/
def fnStepsOfSharedTailIsSuffixCard : Claim7 := { stood := { row := fnStepsOfSharedTailIsSuffixRow, standIns := [], harness := (true, "caf83344f6361d203046dd18a10277bcf3b70d1bd7c5b194bdac390ddf1e9122"), looks := false }, kinds := [], alts := [], laidByText := true, laidKinds := [.data, .data, .data], laidTests := true, laidLooks := .later }
def FnStepsOfSharedTailIsSuffixCardSaid : Prop := Claim7.holds Tryd.pinned (.plain (OpenSpec.ofChange fnStepsOfSharedTailIsSuffixSpec)) fnStepsOfSharedTailIsSuffixCard
end Rows
end Go.Proofs.Qxb6627489aDoor
