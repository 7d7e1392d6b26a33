/-
  DERIVED. GIVEN WITH THE SEED: THE CARDS: each row of YtemohaonhcmpkaaFmtRows.lean that lists a variable, with what it lists TIED to the program's text (the seventh form; the later family's looks); each row that meets fmt, with fmt's text TOLD by the authors' own Lean function (tested against real Go, not proved from fmt's source: count such statements apart). THE CARD IS WHAT COUNTS. Prove the row's statement (the work); the ties are given (YtemohaonhcmpkaaFmtTie.lean); close each card by the builder's one call (the guide's Derived/Test/ToyasCard.lean, 'card_holds'). Laid BY PROGRAM, IN A SANDBOX (cutbox-door.mjs). By AI agents, Wed Nov 11 2026. No macro, syntax, notation, axiom, sorry.
-/
import Derived.Test.YtemohaonhcmpkaaFmtRows
import GoSem.ClaimSeven
namespace Go.Proofs.YtemohaonhcmpkaaFmt
namespace Rows

/-- THE TOLD AND TIED CARD OF 'n011_104.FnPrintQuotedMatchesModel'. -/
def fnPrintQuotedMatchesModelCard : Claim7 := { stood := { row := fnPrintQuotedMatchesModelRow, standIns := [], harness := (true, "f513d292f1abc13f7a9982cdacc7eff8064980f9db4c8ccb6f8d5b49e1345cb5"), looks := false }, told := true, laidByText := true, laidKinds := [.data, .data, .data, .pinned, .pinned], laidTests := true, laidLooks := .later, goes := false }
def FnPrintQuotedMatchesModelToldSaid : Prop := Claim7.holds Tryf.pinned (.plain (OpenSpec.ofChange fnPrintQuotedMatchesModelSpec)) fnPrintQuotedMatchesModelCard
/-- ITS FALSE NEIGHBOUR. Refute it at one input. -/
def FnPrintQuotedMatchesModelToldWrongFalsely : Prop := Claim7.holds Tryf.pinned (.plain (OpenSpec.ofChange fnPrintQuotedMatchesModelWrong)) fnPrintQuotedMatchesModelCard
end Rows
end Go.Proofs.YtemohaonhcmpkaaFmt
