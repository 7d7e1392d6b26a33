/-
  DERIVED. GIVEN WITH THE SEED: THE CARDS: each row of YtnfjfjcdehohhaaDoorRows.lean that lists a variable, with what it lists TIED to the program's text (the seventh form; the later family's looks); each row that meets fmt, with fmt's text TOLD by the authors' own Lean function (tested against real Go, not proved from fmt's source: count such statements apart). THE CARD IS WHAT COUNTS. Prove the row's statement (the work); the ties are given (YtnfjfjcdehohhaaDoorTie.lean); close each card by the builder's one call (the guide's Derived/Test/ToyasCard.lean, 'card_holds'). Laid BY PROGRAM, IN A SANDBOX (cutbox-door.mjs). By AI agents, Wed Nov 11 2026. No macro, syntax, notation, axiom, sorry.
-/
import Derived.Test.YtnfjfjcdehohhaaDoorRows
import GoSem.ClaimSeven
namespace Go.Proofs.YtnfjfjcdehohhaaDoor
namespace Rows

/-- THE TIED CARD OF 'n011_102.FnLenAccumulateSymbolUseCounts'. -/
def fnLenAccumulateSymbolUseCountsCard : Claim7 := { stood := { row := fnLenAccumulateSymbolUseCountsRow, standIns := [], harness := (true, "dd01aac805bf8cf9f7824d0ce2a853ecbdaffa3d6de0dad065d20a895243e069"), looks := false }, kinds := [], alts := [], laidByText := true, laidKinds := [.data], laidTests := true, laidLooks := .later }
def FnLenAccumulateSymbolUseCountsCardSaid : Prop := Claim7.holds Tryd.pinned (.plain (OpenSpec.ofChange fnLenAccumulateSymbolUseCountsSpec)) fnLenAccumulateSymbolUseCountsCard

/-- THE SECOND FORM's CARD OF 'n011_102.FnLenAccumulateSymbolUseCounts'. -/
def fnLenAccumulateSymbolUseCountsUptoCard : Claim7 := { stood := { row := fnLenAccumulateSymbolUseCountsUptoRow, standIns := [], harness := (true, "dd01aac805bf8cf9f7824d0ce2a853ecbdaffa3d6de0dad065d20a895243e069"), looks := false }, kinds := [], alts := [], laidByText := true, laidKinds := [.data], laidTests := true, laidLooks := .later }
def FnLenAccumulateSymbolUseCountsUptoCardSaid : Prop := Claim7.holds Tryd.pinned (.plain (OpenSpec.upto fnLenAccumulateSymbolUseCountsSpec)) fnLenAccumulateSymbolUseCountsUptoCard
end Rows
end Go.Proofs.YtnfjfjcdehohhaaDoor
