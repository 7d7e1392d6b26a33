/-
  DERIVED. GIVEN WITH THE SEED: THE CARDS: each row of YtmpfgkiljfoicaaDoorRows.lean that lists a variable, with what it lists TIED to the program's text (the seventh form; the later family's looks); each row that meets fmt, with fmt's text TOLD by the authors' own Lean function (tested against real Go, not proved from fmt's source: count such statements apart). THE CARD IS WHAT COUNTS. Prove the row's statement (the work); the ties are given (YtmpfgkiljfoicaaDoorTie.lean); close each card by the builder's one call (the guide's Derived/Test/ToyasCard.lean, 'card_holds'). Laid BY PROGRAM, IN A SANDBOX (cutbox-door.mjs). By AI agents, Wed Nov 11 2026. No macro, syntax, notation, axiom, sorry.
-/
import Derived.Test.YtmpfgkiljfoicaaDoorRows
import GoSem.ClaimSeven
namespace Go.Proofs.YtmpfgkiljfoicaaDoor
namespace Rows

/-- THE TIED CARD OF 'n011_287.FnAccumulateSymbolUseCountsAgreesWithSingleCounts'. -/
def fnAccumulateSymbolUseCountsAgreesWithSingleCountsCard : Claim7 := { stood := { row := fnAccumulateSymbolUseCountsAgreesWithSingleCountsRow, standIns := [], harness := (true, "e896412e3ff818f306de114d59d7c0b1f46765ea7b546f69bc68eb01bf3987b0"), looks := false }, kinds := [], alts := [], laidByText := true, laidKinds := [.data], laidTests := true, laidLooks := .later }
def FnAccumulateSymbolUseCountsAgreesWithSingleCountsCardSaid : Prop := Claim7.holds Tryd.pinned (.plain (OpenSpec.ofChange fnAccumulateSymbolUseCountsAgreesWithSingleCountsSpec)) fnAccumulateSymbolUseCountsAgreesWithSingleCountsCard

/-- THE SECOND FORM's CARD OF 'n011_287.FnAccumulateSymbolUseCountsAgreesWithSingleCounts'. -/
def fnAccumulateSymbolUseCountsAgreesWithSingleCountsUptoCard : Claim7 := { stood := { row := fnAccumulateSymbolUseCountsAgreesWithSingleCountsUptoRow, standIns := [], harness := (true, "e896412e3ff818f306de114d59d7c0b1f46765ea7b546f69bc68eb01bf3987b0"), looks := false }, kinds := [], alts := [], laidByText := true, laidKinds := [.data], laidTests := true, laidLooks := .later }
def FnAccumulateSymbolUseCountsAgreesWithSingleCountsUptoCardSaid : Prop := Claim7.holds Tryd.pinned (.plain (OpenSpec.upto fnAccumulateSymbolUseCountsAgreesWithSingleCountsSpec)) fnAccumulateSymbolUseCountsAgreesWithSingleCountsUptoCard
end Rows
end Go.Proofs.YtmpfgkiljfoicaaDoor
