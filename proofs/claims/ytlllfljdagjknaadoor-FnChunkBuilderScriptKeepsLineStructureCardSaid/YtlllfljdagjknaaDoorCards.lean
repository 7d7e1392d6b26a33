/-
  DERIVED. GIVEN WITH THE SEED: THE CARDS: each row of YtlllfljdagjknaaDoorRows.lean that lists a variable, with what it lists TIED to the program's text (the seventh form; the later family's looks); each row that meets fmt, with fmt's text TOLD by the authors' own Lean function (tested against real Go, not proved from fmt's source: count such statements apart). THE CARD IS WHAT COUNTS. Prove the row's statement (the work); the ties are given (YtlllfljdagjknaaDoorTie.lean); close each card by the builder's one call (the guide's Derived/Test/ToyasCard.lean, 'card_holds'). Laid BY PROGRAM, IN A SANDBOX (cutbox-door.mjs). By AI agents, Wed Nov 11 2026. No macro, syntax, notation, axiom, sorry.
-/
import Derived.Test.YtlllfljdagjknaaDoorRows
import GoSem.ClaimSeven
namespace Go.Proofs.YtlllfljdagjknaaDoor
namespace Rows

/-- THE TIED CARD OF 'n011_123.FnChunkBuilderScriptKeepsLineStructure'. -/
def fnChunkBuilderScriptKeepsLineStructureCard : Claim7 := { stood := { row := fnChunkBuilderScriptKeepsLineStructureRow, standIns := [], harness := (true, "31e7cfdf886eece360e2ce8827cfe82ef13292c12e810c90c57c7f71fcccf38b"), looks := false }, kinds := [], alts := [], laidByText := true, laidKinds := [.widerDeep], laidTests := true, laidLooks := .later }
def FnChunkBuilderScriptKeepsLineStructureCardSaid : Prop := Claim7.holds Tryd.pinned (.plain (OpenSpec.ofChange fnChunkBuilderScriptKeepsLineStructureSpec)) fnChunkBuilderScriptKeepsLineStructureCard

/-- THE SECOND FORM's CARD OF 'n011_123.FnChunkBuilderScriptKeepsLineStructure'. -/
def fnChunkBuilderScriptKeepsLineStructureUptoCard : Claim7 := { stood := { row := fnChunkBuilderScriptKeepsLineStructureUptoRow, standIns := [], harness := (true, "31e7cfdf886eece360e2ce8827cfe82ef13292c12e810c90c57c7f71fcccf38b"), looks := false }, kinds := [], alts := [], laidByText := true, laidKinds := [.widerDeep], laidTests := true, laidLooks := .later }
def FnChunkBuilderScriptKeepsLineStructureUptoCardSaid : Prop := Claim7.holds Tryd.pinned (.plain (OpenSpec.upto fnChunkBuilderScriptKeepsLineStructureSpec)) fnChunkBuilderScriptKeepsLineStructureUptoCard
end Rows
end Go.Proofs.YtlllfljdagjknaaDoor
