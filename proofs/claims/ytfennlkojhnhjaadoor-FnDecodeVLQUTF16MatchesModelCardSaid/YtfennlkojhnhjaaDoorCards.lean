/-
  DERIVED. GIVEN WITH THE SEED: THE CARDS: each row of YtfennlkojhnhjaaDoorRows.lean that lists a variable, with what it lists TIED to the program's text (the seventh form; the later family's looks); each row that meets fmt, with fmt's text TOLD by the authors' own Lean function (tested against real Go, not proved from fmt's source: count such statements apart). THE CARD IS WHAT COUNTS. Prove the row's statement (the work); the ties are given (YtfennlkojhnhjaaDoorTie.lean); close each card by the builder's one call (the guide's Derived/Test/ToyasCard.lean, 'card_holds'). Laid BY PROGRAM, IN A SANDBOX (cutbox-door.mjs). By AI agents, Wed Nov 11 2026. No macro, syntax, notation, axiom, sorry.
-/
import Derived.Test.YtfennlkojhnhjaaDoorRows
import GoSem.ClaimSeven
namespace Go.Proofs.YtfennlkojhnhjaaDoor
namespace Rows

/-- THE TIED CARD OF 'n011_194.FnDecodeVLQUTF16MatchesModel'. -/
def fnDecodeVLQUTF16MatchesModelCard : Claim7 := { stood := { row := fnDecodeVLQUTF16MatchesModelRow, standIns := [], harness := (true, "d3738ae2a3b77962d3e3327daeafa99406e3a33d4d6636f9c648e9cd21cd7e74"), looks := false }, kinds := [], alts := [], laidByText := true, laidKinds := [.widerDeep], laidTests := true, laidLooks := .later }
def FnDecodeVLQUTF16MatchesModelCardSaid : Prop := Claim7.holds Tryd.pinned (.plain (OpenSpec.ofChange fnDecodeVLQUTF16MatchesModelSpec)) fnDecodeVLQUTF16MatchesModelCard

/-- THE TIED CARD OF 'n011_194.FnEncodeVLQMatchesDigitModel'. -/
def fnEncodeVLQMatchesDigitModelCard : Claim7 := { stood := { row := fnEncodeVLQMatchesDigitModelRow, standIns := [], harness := (true, "d3738ae2a3b77962d3e3327daeafa99406e3a33d4d6636f9c648e9cd21cd7e74"), looks := false }, kinds := [], alts := [], laidByText := true, laidKinds := [.widerDeep], laidTests := true, laidLooks := .later }
def FnEncodeVLQMatchesDigitModelCardSaid : Prop := Claim7.holds Tryd.pinned (.plain (OpenSpec.ofChange fnEncodeVLQMatchesDigitModelSpec)) fnEncodeVLQMatchesDigitModelCard

/-- THE TIED CARD OF 'n011_123.FnChunkBuilderScriptKeepsLineStructure'. -/
def fnChunkBuilderScriptKeepsLineStructureCard : Claim7 := { stood := { row := fnChunkBuilderScriptKeepsLineStructureRow, standIns := [], harness := (true, "d3738ae2a3b77962d3e3327daeafa99406e3a33d4d6636f9c648e9cd21cd7e74"), looks := false }, kinds := [], alts := [], laidByText := true, laidKinds := [.widerDeep], laidTests := true, laidLooks := .later }
def FnChunkBuilderScriptKeepsLineStructureCardSaid : Prop := Claim7.holds Tryd.pinned (.plain (OpenSpec.ofChange fnChunkBuilderScriptKeepsLineStructureSpec)) fnChunkBuilderScriptKeepsLineStructureCard

/-- THE TIED CARD OF 'n011_108.FnAppendChunkDecodesToAbsolute'. -/
def fnAppendChunkDecodesToAbsoluteCard : Claim7 := { stood := { row := fnAppendChunkDecodesToAbsoluteRow, standIns := [], harness := (true, "d3738ae2a3b77962d3e3327daeafa99406e3a33d4d6636f9c648e9cd21cd7e74"), looks := false }, kinds := [], alts := [], laidByText := true, laidKinds := [.widerDeep], laidTests := true, laidLooks := .later }
def FnAppendChunkDecodesToAbsoluteCardSaid : Prop := Claim7.holds Tryd.pinned (.plain (OpenSpec.ofChange fnAppendChunkDecodesToAbsoluteSpec)) fnAppendChunkDecodesToAbsoluteCard

/-- THE TIED CARD OF 'n011_1002.FnTop'. -/
def fnTopCard : Claim7 := { stood := { row := fnTopRow, standIns := [], harness := (true, "d3738ae2a3b77962d3e3327daeafa99406e3a33d4d6636f9c648e9cd21cd7e74"), looks := false }, kinds := [], alts := [], laidByText := true, laidKinds := [.data, .widerDeep, .pinned], laidTests := true, laidLooks := .later }
def FnTopCardSaid : Prop := Claim7.holds Tryd.pinned (.plain (OpenSpec.ofChange fnTopSpec)) fnTopCard

/-- THE SECOND FORM's CARD OF 'n011_194.FnDecodeVLQUTF16MatchesModel'. -/
def fnDecodeVLQUTF16MatchesModelUptoCard : Claim7 := { stood := { row := fnDecodeVLQUTF16MatchesModelUptoRow, standIns := [], harness := (true, "d3738ae2a3b77962d3e3327daeafa99406e3a33d4d6636f9c648e9cd21cd7e74"), looks := false }, kinds := [], alts := [], laidByText := true, laidKinds := [.widerDeep], laidTests := true, laidLooks := .later }
def FnDecodeVLQUTF16MatchesModelUptoCardSaid : Prop := Claim7.holds Tryd.pinned (.plain (OpenSpec.upto fnDecodeVLQUTF16MatchesModelSpec)) fnDecodeVLQUTF16MatchesModelUptoCard

/-- THE SECOND FORM's CARD OF 'n011_194.FnEncodeVLQMatchesDigitModel'. -/
def fnEncodeVLQMatchesDigitModelUptoCard : Claim7 := { stood := { row := fnEncodeVLQMatchesDigitModelUptoRow, standIns := [], harness := (true, "d3738ae2a3b77962d3e3327daeafa99406e3a33d4d6636f9c648e9cd21cd7e74"), looks := false }, kinds := [], alts := [], laidByText := true, laidKinds := [.widerDeep], laidTests := true, laidLooks := .later }
def FnEncodeVLQMatchesDigitModelUptoCardSaid : Prop := Claim7.holds Tryd.pinned (.plain (OpenSpec.upto fnEncodeVLQMatchesDigitModelSpec)) fnEncodeVLQMatchesDigitModelUptoCard

/-- THE SECOND FORM's CARD OF 'n011_123.FnChunkBuilderScriptKeepsLineStructure'. -/
def fnChunkBuilderScriptKeepsLineStructureUptoCard : Claim7 := { stood := { row := fnChunkBuilderScriptKeepsLineStructureUptoRow, standIns := [], harness := (true, "d3738ae2a3b77962d3e3327daeafa99406e3a33d4d6636f9c648e9cd21cd7e74"), looks := false }, kinds := [], alts := [], laidByText := true, laidKinds := [.widerDeep], laidTests := true, laidLooks := .later }
def FnChunkBuilderScriptKeepsLineStructureUptoCardSaid : Prop := Claim7.holds Tryd.pinned (.plain (OpenSpec.upto fnChunkBuilderScriptKeepsLineStructureSpec)) fnChunkBuilderScriptKeepsLineStructureUptoCard

/-- THE SECOND FORM's CARD OF 'n011_108.FnAppendChunkDecodesToAbsolute'. -/
def fnAppendChunkDecodesToAbsoluteUptoCard : Claim7 := { stood := { row := fnAppendChunkDecodesToAbsoluteUptoRow, standIns := [], harness := (true, "d3738ae2a3b77962d3e3327daeafa99406e3a33d4d6636f9c648e9cd21cd7e74"), looks := false }, kinds := [], alts := [], laidByText := true, laidKinds := [.widerDeep], laidTests := true, laidLooks := .later }
def FnAppendChunkDecodesToAbsoluteUptoCardSaid : Prop := Claim7.holds Tryd.pinned (.plain (OpenSpec.upto fnAppendChunkDecodesToAbsoluteSpec)) fnAppendChunkDecodesToAbsoluteUptoCard

/-- THE SECOND FORM's CARD OF 'n011_1002.FnTop'. -/
def fnTopUptoCard : Claim7 := { stood := { row := fnTopUptoRow, standIns := [], harness := (true, "d3738ae2a3b77962d3e3327daeafa99406e3a33d4d6636f9c648e9cd21cd7e74"), looks := false }, kinds := [], alts := [], laidByText := true, laidKinds := [.data, .widerDeep, .pinned], laidTests := true, laidLooks := .later }
def FnTopUptoCardSaid : Prop := Claim7.holds Tryd.pinned (.plain (OpenSpec.upto fnTopSpec)) fnTopUptoCard
end Rows
end Go.Proofs.YtfennlkojhnhjaaDoor
