/-
  DERIVED. GIVEN WITH THE SEED: THE CARDS: each row of YtoegmcakolidbaaDoorRows.lean that lists a variable, with what it lists TIED to the program's text (the seventh form; the later family's looks); each row that meets fmt, with fmt's text TOLD by the authors' own Lean function (tested against real Go, not proved from fmt's source: count such statements apart). THE CARD IS WHAT COUNTS. Prove the row's statement (the work); the ties are given (YtoegmcakolidbaaDoorTie.lean); close each card by the builder's one call (the guide's Derived/Test/ToyasCard.lean, 'card_holds'). Laid BY PROGRAM, IN A SANDBOX (cutbox-door.mjs). By AI agents, Wed Nov 11 2026. No macro, syntax, notation, axiom, sorry.
-/
import Derived.Test.YtoegmcakolidbaaDoorRows
import GoSem.ClaimSeven
namespace Go.Proofs.YtoegmcakolidbaaDoor
namespace Rows

/-- THE TIED CARD OF 'n011_108.FnAppendChunkDecodesToAbsolute'. -/
def fnAppendChunkDecodesToAbsoluteCard : Claim7 := { stood := { row := fnAppendChunkDecodesToAbsoluteRow, standIns := [], harness := (true, "b81df613245b1de4a722c182024296099910be3bc32e436bdf0ecf58958e7d12"), looks := false }, kinds := [], alts := [], laidByText := true, laidKinds := [.widerDeep], laidTests := true, laidLooks := .later }
def FnAppendChunkDecodesToAbsoluteCardSaid : Prop := Claim7.holds Tryd.pinned (.plain (OpenSpec.ofChange fnAppendChunkDecodesToAbsoluteSpec)) fnAppendChunkDecodesToAbsoluteCard

/-- THE SECOND FORM's CARD OF 'n011_108.FnAppendChunkDecodesToAbsolute'. -/
def fnAppendChunkDecodesToAbsoluteUptoCard : Claim7 := { stood := { row := fnAppendChunkDecodesToAbsoluteUptoRow, standIns := [], harness := (true, "b81df613245b1de4a722c182024296099910be3bc32e436bdf0ecf58958e7d12"), looks := false }, kinds := [], alts := [], laidByText := true, laidKinds := [.widerDeep], laidTests := true, laidLooks := .later }
def FnAppendChunkDecodesToAbsoluteUptoCardSaid : Prop := Claim7.holds Tryd.pinned (.plain (OpenSpec.upto fnAppendChunkDecodesToAbsoluteSpec)) fnAppendChunkDecodesToAbsoluteUptoCard
end Rows
end Go.Proofs.YtoegmcakolidbaaDoor
