/-
  DERIVED. GIVEN WITH THE SEED: THE CARDS: each row of YtgollalliomhfaaDoorRows.lean that lists a variable, with what it lists TIED to the program's text (the seventh form; the later family's looks); each row that meets fmt, with fmt's text TOLD by the authors' own Lean function (tested against real Go, not proved from fmt's source: count such statements apart). THE CARD IS WHAT COUNTS. Prove the row's statement (the work); the ties are given (YtgollalliomhfaaDoorTie.lean); close each card by the builder's one call (the guide's Derived/Test/ToyasCard.lean, 'card_holds'). Laid BY PROGRAM, IN A SANDBOX (cutbox-door.mjs). By AI agents, Wed Nov 11 2026. No macro, syntax, notation, axiom, sorry.
-/
import Derived.Test.YtgollalliomhfaaDoorRows
import GoSem.ClaimSeven
namespace Go.Proofs.YtgollalliomhfaaDoor
namespace Rows

/-- THE TIED CARD OF 'n011_305.FnAdvanceImportTrackerMatchesCaseTable'. -/
def fnAdvanceImportTrackerMatchesCaseTableCard : Claim7 := { stood := { row := fnAdvanceImportTrackerMatchesCaseTableRow, standIns := [], harness := (true, "2a151efa6a335bfbfe792fbd7b1da6d8b2ee9c8c518b09c555527b59528ca316"), looks := true }, kinds := [], alts := [], laidByText := true, laidKinds := [.data], laidTests := true, laidLooks := .later }
def FnAdvanceImportTrackerMatchesCaseTableCardSaid : Prop := Claim7.holds Tryd.pinned (.plain (OpenSpec.ofChange fnAdvanceImportTrackerMatchesCaseTableSpec)) fnAdvanceImportTrackerMatchesCaseTableCard

/-- THE SECOND FORM's CARD OF 'n011_305.FnAdvanceImportTrackerMatchesCaseTable'. -/
def fnAdvanceImportTrackerMatchesCaseTableUptoCard : Claim7 := { stood := { row := fnAdvanceImportTrackerMatchesCaseTableUptoRow, standIns := [], harness := (true, "2a151efa6a335bfbfe792fbd7b1da6d8b2ee9c8c518b09c555527b59528ca316"), looks := true }, kinds := [], alts := [], laidByText := true, laidKinds := [.data], laidTests := true, laidLooks := .later }
def FnAdvanceImportTrackerMatchesCaseTableUptoCardSaid : Prop := Claim7.holds Tryd.pinned (.plain (OpenSpec.upto fnAdvanceImportTrackerMatchesCaseTableSpec)) fnAdvanceImportTrackerMatchesCaseTableUptoCard
end Rows
end Go.Proofs.YtgollalliomhfaaDoor
