/-
  DERIVED. GIVEN WITH THE SEED: THE CARDS: each row of YtlbpplkanogkgaaDoorRows.lean that lists a variable, with what it lists TIED to the program's text (the seventh form; the later family's looks); each row that meets fmt, with fmt's text TOLD by the authors' own Lean function (tested against real Go, not proved from fmt's source: count such statements apart). THE CARD IS WHAT COUNTS. Prove the row's statement (the work); the ties are given (YtlbpplkanogkgaaDoorTie.lean); close each card by the builder's one call (the guide's Derived/Test/ToyasCard.lean, 'card_holds'). Laid BY PROGRAM, IN A SANDBOX (cutbox-door.mjs). By AI agents, Wed Nov 11 2026. No macro, syntax, notation, axiom, sorry.
-/
import Derived.Test.YtlbpplkanogkgaaDoorRows
import GoSem.ClaimSeven
namespace Go.Proofs.YtlbpplkanogkgaaDoor
namespace Rows

/-- THE TIED CARD OF 'n011_93.FnStepMatchesUTF8Model'. -/
def fnStepMatchesUTF8ModelCard : Claim7 := { stood := { row := fnStepMatchesUTF8ModelRow, standIns := [], harness := (true, "7ba2ed2dce9afa780ce62f38409c575829e141aabbd2f51df9fb8dbb050ab062"), looks := false }, kinds := [], alts := [], laidByText := true, laidKinds := [.data, .pinned], laidTests := true, laidLooks := .later }
def FnStepMatchesUTF8ModelCardSaid : Prop := Claim7.holds Tryd.pinned (.plain (OpenSpec.ofChange fnStepMatchesUTF8ModelSpec)) fnStepMatchesUTF8ModelCard

/-- THE TIED CARD OF 'n011_111.FnStepMatchesUTF8ModelAndCountsNewlines'. -/
def fnStepMatchesUTF8ModelAndCountsNewlinesCard : Claim7 := { stood := { row := fnStepMatchesUTF8ModelAndCountsNewlinesRow, standIns := [], harness := (true, "7ba2ed2dce9afa780ce62f38409c575829e141aabbd2f51df9fb8dbb050ab062"), looks := false }, kinds := [], alts := [], laidByText := true, laidKinds := [.data, .pinned], laidTests := true, laidLooks := .later }
def FnStepMatchesUTF8ModelAndCountsNewlinesCardSaid : Prop := Claim7.holds Tryd.pinned (.plain (OpenSpec.ofChange fnStepMatchesUTF8ModelAndCountsNewlinesSpec)) fnStepMatchesUTF8ModelAndCountsNewlinesCard

/-- THE TIED CARD OF 'n011_170.FnConsumeNameStopsAtNonName'. -/
def fnConsumeNameStopsAtNonNameCard : Claim7 := { stood := { row := fnConsumeNameStopsAtNonNameRow, standIns := [], harness := (true, "7ba2ed2dce9afa780ce62f38409c575829e141aabbd2f51df9fb8dbb050ab062"), looks := false }, kinds := [], alts := [], laidByText := true, laidKinds := [.data, .pinned], laidTests := true, laidLooks := .later }
def FnConsumeNameStopsAtNonNameCardSaid : Prop := Claim7.holds Tryd.pinned (.plain (OpenSpec.ofChange fnConsumeNameStopsAtNonNameSpec)) fnConsumeNameStopsAtNonNameCard

/-- THE TIED CARD OF 'n011_311.FnConsumeNumericShape'. -/
def fnConsumeNumericShapeCard : Claim7 := { stood := { row := fnConsumeNumericShapeRow, standIns := [], harness := (true, "7ba2ed2dce9afa780ce62f38409c575829e141aabbd2f51df9fb8dbb050ab062"), looks := false }, kinds := [], alts := [], laidByText := true, laidKinds := [.data, .pinned], laidTests := true, laidLooks := .later }
def FnConsumeNumericShapeCardSaid : Prop := Claim7.holds Tryd.pinned (.plain (OpenSpec.ofChange fnConsumeNumericShapeSpec)) fnConsumeNumericShapeCard

/-- THE TIED CARD OF 'n011_281.FnTokenizeTilesInputWithoutComments'. -/
def fnTokenizeTilesInputWithoutCommentsCard : Claim7 := { stood := { row := fnTokenizeTilesInputWithoutCommentsRow, standIns := [], harness := (true, "7ba2ed2dce9afa780ce62f38409c575829e141aabbd2f51df9fb8dbb050ab062"), looks := false }, kinds := [], alts := [], laidByText := true, laidKinds := [.data, .pinned], laidTests := true, laidLooks := .later }
def FnTokenizeTilesInputWithoutCommentsCardSaid : Prop := Claim7.holds Tryd.pinned (.plain (OpenSpec.ofChange fnTokenizeTilesInputWithoutCommentsSpec)) fnTokenizeTilesInputWithoutCommentsCard

/-- THE TIED CARD OF 'n011_281.FnIsNumericTokensHaveNumericShape'. -/
def fnIsNumericTokensHaveNumericShapeCard : Claim7 := { stood := { row := fnIsNumericTokensHaveNumericShapeRow, standIns := [], harness := (true, "7ba2ed2dce9afa780ce62f38409c575829e141aabbd2f51df9fb8dbb050ab062"), looks := false }, kinds := [], alts := [], laidByText := true, laidKinds := [.data, .pinned], laidTests := true, laidLooks := .later }
def FnIsNumericTokensHaveNumericShapeCardSaid : Prop := Claim7.holds Tryd.pinned (.plain (OpenSpec.ofChange fnIsNumericTokensHaveNumericShapeSpec)) fnIsNumericTokensHaveNumericShapeCard

/-- THE TIED CARD OF 'n011_111.FnCommentConsumedExactly'. -/
def fnCommentConsumedExactlyCard : Claim7 := { stood := { row := fnCommentConsumedExactlyRow, standIns := [], harness := (true, "7ba2ed2dce9afa780ce62f38409c575829e141aabbd2f51df9fb8dbb050ab062"), looks := false }, kinds := [], alts := [], laidByText := true, laidKinds := [.data, .pinned], laidTests := true, laidLooks := .later }
def FnCommentConsumedExactlyCardSaid : Prop := Claim7.holds Tryd.pinned (.plain (OpenSpec.ofChange fnCommentConsumedExactlySpec)) fnCommentConsumedExactlyCard

/-- THE SECOND FORM's CARD OF 'n011_93.FnStepMatchesUTF8Model'. -/
def fnStepMatchesUTF8ModelUptoCard : Claim7 := { stood := { row := fnStepMatchesUTF8ModelUptoRow, standIns := [], harness := (true, "7ba2ed2dce9afa780ce62f38409c575829e141aabbd2f51df9fb8dbb050ab062"), looks := false }, kinds := [], alts := [], laidByText := true, laidKinds := [.data, .pinned], laidTests := true, laidLooks := .later }
def FnStepMatchesUTF8ModelUptoCardSaid : Prop := Claim7.holds Tryd.pinned (.plain (OpenSpec.upto fnStepMatchesUTF8ModelSpec)) fnStepMatchesUTF8ModelUptoCard

/-- THE SECOND FORM's CARD OF 'n011_111.FnStepMatchesUTF8ModelAndCountsNewlines'. -/
def fnStepMatchesUTF8ModelAndCountsNewlinesUptoCard : Claim7 := { stood := { row := fnStepMatchesUTF8ModelAndCountsNewlinesUptoRow, standIns := [], harness := (true, "7ba2ed2dce9afa780ce62f38409c575829e141aabbd2f51df9fb8dbb050ab062"), looks := false }, kinds := [], alts := [], laidByText := true, laidKinds := [.data, .pinned], laidTests := true, laidLooks := .later }
def FnStepMatchesUTF8ModelAndCountsNewlinesUptoCardSaid : Prop := Claim7.holds Tryd.pinned (.plain (OpenSpec.upto fnStepMatchesUTF8ModelAndCountsNewlinesSpec)) fnStepMatchesUTF8ModelAndCountsNewlinesUptoCard

/-- THE SECOND FORM's CARD OF 'n011_170.FnConsumeNameStopsAtNonName'. -/
def fnConsumeNameStopsAtNonNameUptoCard : Claim7 := { stood := { row := fnConsumeNameStopsAtNonNameUptoRow, standIns := [], harness := (true, "7ba2ed2dce9afa780ce62f38409c575829e141aabbd2f51df9fb8dbb050ab062"), looks := false }, kinds := [], alts := [], laidByText := true, laidKinds := [.data, .pinned], laidTests := true, laidLooks := .later }
def FnConsumeNameStopsAtNonNameUptoCardSaid : Prop := Claim7.holds Tryd.pinned (.plain (OpenSpec.upto fnConsumeNameStopsAtNonNameSpec)) fnConsumeNameStopsAtNonNameUptoCard

/-- THE SECOND FORM's CARD OF 'n011_311.FnConsumeNumericShape'. -/
def fnConsumeNumericShapeUptoCard : Claim7 := { stood := { row := fnConsumeNumericShapeUptoRow, standIns := [], harness := (true, "7ba2ed2dce9afa780ce62f38409c575829e141aabbd2f51df9fb8dbb050ab062"), looks := false }, kinds := [], alts := [], laidByText := true, laidKinds := [.data, .pinned], laidTests := true, laidLooks := .later }
def FnConsumeNumericShapeUptoCardSaid : Prop := Claim7.holds Tryd.pinned (.plain (OpenSpec.upto fnConsumeNumericShapeSpec)) fnConsumeNumericShapeUptoCard

/-- THE SECOND FORM's CARD OF 'n011_281.FnTokenizeTilesInputWithoutComments'. -/
def fnTokenizeTilesInputWithoutCommentsUptoCard : Claim7 := { stood := { row := fnTokenizeTilesInputWithoutCommentsUptoRow, standIns := [], harness := (true, "7ba2ed2dce9afa780ce62f38409c575829e141aabbd2f51df9fb8dbb050ab062"), looks := false }, kinds := [], alts := [], laidByText := true, laidKinds := [.data, .pinned], laidTests := true, laidLooks := .later }
def FnTokenizeTilesInputWithoutCommentsUptoCardSaid : Prop := Claim7.holds Tryd.pinned (.plain (OpenSpec.upto fnTokenizeTilesInputWithoutCommentsSpec)) fnTokenizeTilesInputWithoutCommentsUptoCard

/-- THE SECOND FORM's CARD OF 'n011_281.FnIsNumericTokensHaveNumericShape'. -/
def fnIsNumericTokensHaveNumericShapeUptoCard : Claim7 := { stood := { row := fnIsNumericTokensHaveNumericShapeUptoRow, standIns := [], harness := (true, "7ba2ed2dce9afa780ce62f38409c575829e141aabbd2f51df9fb8dbb050ab062"), looks := false }, kinds := [], alts := [], laidByText := true, laidKinds := [.data, .pinned], laidTests := true, laidLooks := .later }
def FnIsNumericTokensHaveNumericShapeUptoCardSaid : Prop := Claim7.holds Tryd.pinned (.plain (OpenSpec.upto fnIsNumericTokensHaveNumericShapeSpec)) fnIsNumericTokensHaveNumericShapeUptoCard

/-- THE SECOND FORM's CARD OF 'n011_111.FnCommentConsumedExactly'. -/
def fnCommentConsumedExactlyUptoCard : Claim7 := { stood := { row := fnCommentConsumedExactlyUptoRow, standIns := [], harness := (true, "7ba2ed2dce9afa780ce62f38409c575829e141aabbd2f51df9fb8dbb050ab062"), looks := false }, kinds := [], alts := [], laidByText := true, laidKinds := [.data, .pinned], laidTests := true, laidLooks := .later }
def FnCommentConsumedExactlyUptoCardSaid : Prop := Claim7.holds Tryd.pinned (.plain (OpenSpec.upto fnCommentConsumedExactlySpec)) fnCommentConsumedExactlyUptoCard
end Rows
end Go.Proofs.YtlbpplkanogkgaaDoor
