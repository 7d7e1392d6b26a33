/-
  DERIVED. GIVEN WITH THE SEED: THE CARDS: each row of YtggepefjodgcgaaDoorRows.lean that lists a variable, with what it lists TIED to the program's text (the seventh form; the later family's looks); each row that meets fmt, with fmt's text TOLD by the authors' own Lean function (tested against real Go, not proved from fmt's source: count such statements apart). THE CARD IS WHAT COUNTS. Prove the row's statement (the work); the ties are given (YtggepefjodgcgaaDoorTie.lean); close each card by the builder's one call (the guide's Derived/Test/ToyasCard.lean, 'card_holds'). Laid BY PROGRAM, IN A SANDBOX (cutbox-door.mjs). By AI agents, Wed Nov 11 2026. No macro, syntax, notation, axiom, sorry.
-/
import Derived.Test.YtggepefjodgcgaaDoorRows
import GoSem.ClaimSeven
namespace Go.Proofs.YtggepefjodgcgaaDoor
namespace Rows

/-- THE TIED CARD OF 'n011_102.FnMinifyNameForSymbolAfterTopLevel'. -/
def fnMinifyNameForSymbolAfterTopLevelCard : Claim7 := { stood := { row := fnMinifyNameForSymbolAfterTopLevelRow, standIns := [], harness := (true, "2aeab089af41827e4e4a3c490ac9b53e6053eadbddda57beb5705344cdd7fb59"), looks := false }, kinds := [], alts := [], laidByText := true, laidKinds := [.data], laidTests := true, laidLooks := .later }
def FnMinifyNameForSymbolAfterTopLevelCardSaid : Prop := Claim7.holds Tryd.pinned (.plain (OpenSpec.ofChange fnMinifyNameForSymbolAfterTopLevelSpec)) fnMinifyNameForSymbolAfterTopLevelCard

/-- THE SECOND FORM's CARD OF 'n011_102.FnMinifyNameForSymbolAfterTopLevel'. -/
def fnMinifyNameForSymbolAfterTopLevelUptoCard : Claim7 := { stood := { row := fnMinifyNameForSymbolAfterTopLevelUptoRow, standIns := [], harness := (true, "2aeab089af41827e4e4a3c490ac9b53e6053eadbddda57beb5705344cdd7fb59"), looks := false }, kinds := [], alts := [], laidByText := true, laidKinds := [.data], laidTests := true, laidLooks := .later }
def FnMinifyNameForSymbolAfterTopLevelUptoCardSaid : Prop := Claim7.holds Tryd.pinned (.plain (OpenSpec.upto fnMinifyNameForSymbolAfterTopLevelSpec)) fnMinifyNameForSymbolAfterTopLevelUptoCard
end Rows
end Go.Proofs.YtggepefjodgcgaaDoor
