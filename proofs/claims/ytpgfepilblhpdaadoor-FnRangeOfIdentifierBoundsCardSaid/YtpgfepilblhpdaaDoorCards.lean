/-
  DERIVED. GIVEN WITH THE SEED: THE CARDS: each row of YtpgfepilblhpdaaDoorRows.lean that lists a variable, with what it lists TIED to the program's text (the seventh form; the later family's looks); each row that meets fmt, with fmt's text TOLD by the authors' own Lean function (tested against real Go, not proved from fmt's source: count such statements apart). THE CARD IS WHAT COUNTS. Prove the row's statement (the work); the ties are given (YtpgfepilblhpdaaDoorTie.lean); close each card by the builder's one call (the guide's Derived/Test/ToyasCard.lean, 'card_holds'). Laid BY PROGRAM, IN A SANDBOX (cutbox-door.mjs). By AI agents, Wed Nov 11 2026. No macro, syntax, notation, axiom, sorry.
-/
import Derived.Test.YtpgfepilblhpdaaDoorRows
import GoSem.ClaimSeven
namespace Go.Proofs.YtpgfepilblhpdaaDoor
namespace Rows

/-- THE TIED CARD OF 'n011_274.FnDecodeEscapesJSONRefusesNonJSONEscapes'. -/
def fnDecodeEscapesJSONRefusesNonJSONEscapesCard : Claim7 := { stood := { row := fnDecodeEscapesJSONRefusesNonJSONEscapesRow, standIns := [], harness := (true, "2a3c46f0f8967c794e8b5746086d0e5b56df8c176286dff9d08c18b56f343874"), looks := false }, kinds := [], alts := [], laidByText := true, laidKinds := [.data, .pinned], laidTests := true, laidLooks := .later }
def FnDecodeEscapesJSONRefusesNonJSONEscapesCardSaid : Prop := Claim7.holds Tryd.pinned (.plain (OpenSpec.ofChange fnDecodeEscapesJSONRefusesNonJSONEscapesSpec)) fnDecodeEscapesJSONRefusesNonJSONEscapesCard

/-- THE TIED CARD OF 'n011_187.FnWouldStartIdentifierAgreesWithoutEscapes'. -/
def fnWouldStartIdentifierAgreesWithoutEscapesCard : Claim7 := { stood := { row := fnWouldStartIdentifierAgreesWithoutEscapesRow, standIns := [], harness := (true, "2a3c46f0f8967c794e8b5746086d0e5b56df8c176286dff9d08c18b56f343874"), looks := false }, kinds := [], alts := [], laidByText := true, laidKinds := [.data, .pinned], laidTests := true, laidLooks := .later }
def FnWouldStartIdentifierAgreesWithoutEscapesCardSaid : Prop := Claim7.holds Tryd.pinned (.plain (OpenSpec.ofChange fnWouldStartIdentifierAgreesWithoutEscapesSpec)) fnWouldStartIdentifierAgreesWithoutEscapesCard

/-- THE TIED CARD OF 'n011_187.FnRangeOfIdentifierBounds'. -/
def fnRangeOfIdentifierBoundsCard : Claim7 := { stood := { row := fnRangeOfIdentifierBoundsRow, standIns := [], harness := (true, "2a3c46f0f8967c794e8b5746086d0e5b56df8c176286dff9d08c18b56f343874"), looks := false }, kinds := [], alts := [], laidByText := true, laidKinds := [.data, .pinned], laidTests := true, laidLooks := .later }
def FnRangeOfIdentifierBoundsCardSaid : Prop := Claim7.holds Tryd.pinned (.plain (OpenSpec.ofChange fnRangeOfIdentifierBoundsSpec)) fnRangeOfIdentifierBoundsCard

/-- THE SECOND FORM's CARD OF 'n011_274.FnDecodeEscapesJSONRefusesNonJSONEscapes'. -/
def fnDecodeEscapesJSONRefusesNonJSONEscapesUptoCard : Claim7 := { stood := { row := fnDecodeEscapesJSONRefusesNonJSONEscapesUptoRow, standIns := [], harness := (true, "2a3c46f0f8967c794e8b5746086d0e5b56df8c176286dff9d08c18b56f343874"), looks := false }, kinds := [], alts := [], laidByText := true, laidKinds := [.data, .pinned], laidTests := true, laidLooks := .later }
def FnDecodeEscapesJSONRefusesNonJSONEscapesUptoCardSaid : Prop := Claim7.holds Tryd.pinned (.plain (OpenSpec.upto fnDecodeEscapesJSONRefusesNonJSONEscapesSpec)) fnDecodeEscapesJSONRefusesNonJSONEscapesUptoCard

/-- THE SECOND FORM's CARD OF 'n011_187.FnWouldStartIdentifierAgreesWithoutEscapes'. -/
def fnWouldStartIdentifierAgreesWithoutEscapesUptoCard : Claim7 := { stood := { row := fnWouldStartIdentifierAgreesWithoutEscapesUptoRow, standIns := [], harness := (true, "2a3c46f0f8967c794e8b5746086d0e5b56df8c176286dff9d08c18b56f343874"), looks := false }, kinds := [], alts := [], laidByText := true, laidKinds := [.data, .pinned], laidTests := true, laidLooks := .later }
def FnWouldStartIdentifierAgreesWithoutEscapesUptoCardSaid : Prop := Claim7.holds Tryd.pinned (.plain (OpenSpec.upto fnWouldStartIdentifierAgreesWithoutEscapesSpec)) fnWouldStartIdentifierAgreesWithoutEscapesUptoCard

/-- THE SECOND FORM's CARD OF 'n011_187.FnRangeOfIdentifierBounds'. -/
def fnRangeOfIdentifierBoundsUptoCard : Claim7 := { stood := { row := fnRangeOfIdentifierBoundsUptoRow, standIns := [], harness := (true, "2a3c46f0f8967c794e8b5746086d0e5b56df8c176286dff9d08c18b56f343874"), looks := false }, kinds := [], alts := [], laidByText := true, laidKinds := [.data, .pinned], laidTests := true, laidLooks := .later }
def FnRangeOfIdentifierBoundsUptoCardSaid : Prop := Claim7.holds Tryd.pinned (.plain (OpenSpec.upto fnRangeOfIdentifierBoundsSpec)) fnRangeOfIdentifierBoundsUptoCard
end Rows
end Go.Proofs.YtpgfepilblhpdaaDoor
