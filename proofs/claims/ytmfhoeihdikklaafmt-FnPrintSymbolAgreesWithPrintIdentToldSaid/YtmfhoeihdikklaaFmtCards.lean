/-
  DERIVED. GIVEN WITH THE SEED: THE CARDS: each row of YtmfhoeihdikklaaFmtRows.lean that lists a variable, with what it lists TIED to the program's text (the seventh form; the later family's looks); each row that meets fmt, with fmt's text TOLD by the authors' own Lean function (tested against real Go, not proved from fmt's source: count such statements apart). THE CARD IS WHAT COUNTS. Prove the row's statement (the work); the ties are given (YtmfhoeihdikklaaFmtTie.lean); close each card by the builder's one call (the guide's Derived/Test/ToyasCard.lean, 'card_holds'). Laid BY PROGRAM, IN A SANDBOX (cutbox-door.mjs). By AI agents, Wed Nov 11 2026. No macro, syntax, notation, axiom, sorry.
-/
import Derived.Test.YtmfhoeihdikklaaFmtRows
import GoSem.ClaimSeven
namespace Go.Proofs.YtmfhoeihdikklaaFmt
namespace Rows

/-- THE TOLD AND TIED CARD OF 'n011_125.FnPrintSymbolAgreesWithPrintIdent'. -/
def fnPrintSymbolAgreesWithPrintIdentCard : Claim7 := { stood := { row := fnPrintSymbolAgreesWithPrintIdentRow, standIns := [], harness := (true, "3a0a255496f38be7a7c8261933aa2594fee7d49c4d10c27ad75687459666900d"), looks := false }, told := true, laidByText := true, laidKinds := [.data, .data, .widerDeep, .pinned], laidTests := true, laidLooks := .later, goes := false }
def FnPrintSymbolAgreesWithPrintIdentToldSaid : Prop := Claim7.holds Tryf.pinned (.plain (OpenSpec.ofChange fnPrintSymbolAgreesWithPrintIdentSpec)) fnPrintSymbolAgreesWithPrintIdentCard
/-- ITS FALSE NEIGHBOUR. Refute it at one input. -/
def FnPrintSymbolAgreesWithPrintIdentToldWrongFalsely : Prop := Claim7.holds Tryf.pinned (.plain (OpenSpec.ofChange fnPrintSymbolAgreesWithPrintIdentWrong)) fnPrintSymbolAgreesWithPrintIdentCard
end Rows
end Go.Proofs.YtmfhoeihdikklaaFmt
