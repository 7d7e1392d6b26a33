/-
  DERIVED. GIVEN WITH THE SEED: THE CARDS: each row of YtgjddkhmkaedgaaDoorRows.lean that lists a variable, with what it lists TIED to the program's text (the seventh form; the later family's looks); each row that meets fmt, with fmt's text TOLD by the authors' own Lean function (tested against real Go, not proved from fmt's source: count such statements apart). THE CARD IS WHAT COUNTS. Prove the row's statement (the work); the ties are given (YtgjddkhmkaedgaaDoorTie.lean); close each card by the builder's one call (the guide's Derived/Test/ToyasCard.lean, 'card_holds'). Laid BY PROGRAM, IN A SANDBOX (cutbox-door.mjs). By AI agents, Wed Nov 11 2026. No macro, syntax, notation, axiom, sorry.
-/
import Derived.Test.YtgjddkhmkaedgaaDoorRows
import GoSem.ClaimSeven
namespace Go.Proofs.YtgjddkhmkaedgaaDoor
namespace Rows

/-- THE TIED CARD OF 'n011_122.FnCompareVersionsAgreesWithCompareSemver'. -/
def fnCompareVersionsAgreesWithCompareSemverCard : Claim7 := { stood := { row := fnCompareVersionsAgreesWithCompareSemverRow, standIns := [], harness := (true, "904e93eaf8c3a57b072419d2e84072910f150730c0242602173c3fc6ffef8682"), looks := true }, kinds := [], alts := [], laidByText := true, laidKinds := [.data, .data, .data, .sentinel, .sentinel], laidTests := true, laidLooks := .later }
def FnCompareVersionsAgreesWithCompareSemverCardSaid : Prop := Claim7.holds Tryd.pinned (.plain (OpenSpec.ofChange fnCompareVersionsAgreesWithCompareSemverSpec)) fnCompareVersionsAgreesWithCompareSemverCard

/-- THE SECOND FORM's CARD OF 'n011_122.FnCompareVersionsAgreesWithCompareSemver'. -/
def fnCompareVersionsAgreesWithCompareSemverUptoCard : Claim7 := { stood := { row := fnCompareVersionsAgreesWithCompareSemverUptoRow, standIns := [], harness := (true, "904e93eaf8c3a57b072419d2e84072910f150730c0242602173c3fc6ffef8682"), looks := true }, kinds := [], alts := [], laidByText := true, laidKinds := [.data, .data, .data, .sentinel, .sentinel], laidTests := true, laidLooks := .later }
def FnCompareVersionsAgreesWithCompareSemverUptoCardSaid : Prop := Claim7.holds Tryd.pinned (.plain (OpenSpec.upto fnCompareVersionsAgreesWithCompareSemverSpec)) fnCompareVersionsAgreesWithCompareSemverUptoCard
end Rows
end Go.Proofs.YtgjddkhmkaedgaaDoor
