/-
  DERIVED. GIVEN WITH THE SEED: THE CARDS: each row of YtdpigpogicapoaaDoorRows.lean that lists a variable, with what it lists TIED to the program's text (the seventh form; the later family's looks); each row that meets fmt, with fmt's text TOLD by the authors' own Lean function (tested against real Go, not proved from fmt's source: count such statements apart). THE CARD IS WHAT COUNTS. Prove the row's statement (the work); the ties are given (YtdpigpogicapoaaDoorTie.lean); close each card by the builder's one call (the guide's Derived/Test/ToyasCard.lean, 'card_holds'). Laid BY PROGRAM, IN A SANDBOX (cutbox-door.mjs). By AI agents, Wed Nov 11 2026. No macro, syntax, notation, axiom, sorry.
-/
import Derived.Test.YtdpigpogicapoaaDoorRows
import GoSem.ClaimSeven
namespace Go.Proofs.YtdpigpogicapoaaDoor
namespace Rows

/-- THE TIED CARD OF 'n011_29.FnNameForSymbolStableAcrossQueries'. -/
def fnNameForSymbolStableAcrossQueriesCard : Claim7 := { stood := { row := fnNameForSymbolStableAcrossQueriesRow, standIns := [], harness := (true, "b9d6a0d579c2a3d15b0a0a6e611ef16de7aa523621621b53dd87ad1c31aefed8"), looks := false }, kinds := [], alts := [], laidByText := true, laidKinds := [.data], laidTests := true, laidLooks := .later }
def FnNameForSymbolStableAcrossQueriesCardSaid : Prop := Claim7.holds Tryd.pinned (.plain (OpenSpec.ofChange fnNameForSymbolStableAcrossQueriesSpec)) fnNameForSymbolStableAcrossQueriesCard

/-- THE SECOND FORM's CARD OF 'n011_29.FnNameForSymbolStableAcrossQueries'. -/
def fnNameForSymbolStableAcrossQueriesUptoCard : Claim7 := { stood := { row := fnNameForSymbolStableAcrossQueriesUptoRow, standIns := [], harness := (true, "b9d6a0d579c2a3d15b0a0a6e611ef16de7aa523621621b53dd87ad1c31aefed8"), looks := false }, kinds := [], alts := [], laidByText := true, laidKinds := [.data], laidTests := true, laidLooks := .later }
def FnNameForSymbolStableAcrossQueriesUptoCardSaid : Prop := Claim7.holds Tryd.pinned (.plain (OpenSpec.upto fnNameForSymbolStableAcrossQueriesSpec)) fnNameForSymbolStableAcrossQueriesUptoCard
end Rows
end Go.Proofs.YtdpigpogicapoaaDoor
