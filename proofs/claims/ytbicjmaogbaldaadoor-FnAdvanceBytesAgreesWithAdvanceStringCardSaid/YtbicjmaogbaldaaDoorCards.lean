/-
  DERIVED. GIVEN WITH THE SEED: THE CARDS: each row of YtbicjmaogbaldaaDoorRows.lean that lists a variable, with what it lists TIED to the program's text (the seventh form; the later family's looks); each row that meets fmt, with fmt's text TOLD by the authors' own Lean function (tested against real Go, not proved from fmt's source: count such statements apart). THE CARD IS WHAT COUNTS. Prove the row's statement (the work); the ties are given (YtbicjmaogbaldaaDoorTie.lean); close each card by the builder's one call (the guide's Derived/Test/ToyasCard.lean, 'card_holds'). Laid BY PROGRAM, IN A SANDBOX (cutbox-door.mjs). By AI agents, Wed Nov 11 2026. No macro, syntax, notation, axiom, sorry.
-/
import Derived.Test.YtbicjmaogbaldaaDoorRows
import GoSem.ClaimSeven
namespace Go.Proofs.YtbicjmaogbaldaaDoor
namespace Rows

/-- THE TIED CARD OF 'n011_23.FnAdvanceBytesAgreesWithAdvanceString'. -/
def fnAdvanceBytesAgreesWithAdvanceStringCard : Claim7 := { stood := { row := fnAdvanceBytesAgreesWithAdvanceStringRow, standIns := [], harness := (true, "57dd65390092a99a7e2c08bff5e3c3949049956acd4be6784fdc0f8b6d058468"), looks := false }, kinds := [], alts := [], laidByText := true, laidKinds := [.data, .pinned], laidTests := true, laidLooks := .later }
def FnAdvanceBytesAgreesWithAdvanceStringCardSaid : Prop := Claim7.holds Tryd.pinned (.plain (OpenSpec.ofChange fnAdvanceBytesAgreesWithAdvanceStringSpec)) fnAdvanceBytesAgreesWithAdvanceStringCard

/-- THE SECOND FORM's CARD OF 'n011_23.FnAdvanceBytesAgreesWithAdvanceString'. -/
def fnAdvanceBytesAgreesWithAdvanceStringUptoCard : Claim7 := { stood := { row := fnAdvanceBytesAgreesWithAdvanceStringUptoRow, standIns := [], harness := (true, "57dd65390092a99a7e2c08bff5e3c3949049956acd4be6784fdc0f8b6d058468"), looks := false }, kinds := [], alts := [], laidByText := true, laidKinds := [.data, .pinned], laidTests := true, laidLooks := .later }
def FnAdvanceBytesAgreesWithAdvanceStringUptoCardSaid : Prop := Claim7.holds Tryd.pinned (.plain (OpenSpec.upto fnAdvanceBytesAgreesWithAdvanceStringSpec)) fnAdvanceBytesAgreesWithAdvanceStringUptoCard
end Rows
end Go.Proofs.YtbicjmaogbaldaaDoor
