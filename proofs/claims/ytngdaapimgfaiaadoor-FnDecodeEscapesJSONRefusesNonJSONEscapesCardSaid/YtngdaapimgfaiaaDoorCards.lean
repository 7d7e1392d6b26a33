/-
  DERIVED. GIVEN WITH THE SEED: THE CARDS: each row of YtngdaapimgfaiaaDoorRows.lean that lists a variable, with what it lists TIED to the program's text (the seventh form; the later family's looks); each row that meets fmt, with fmt's text TOLD by the authors' own Lean function (tested against real Go, not proved from fmt's source: count such statements apart). THE CARD IS WHAT COUNTS. Prove the row's statement (the work); the ties are given (YtngdaapimgfaiaaDoorTie.lean); close each card by the builder's one call (the guide's Derived/Test/ToyasCard.lean, 'card_holds'). Laid BY PROGRAM, IN A SANDBOX (cutbox-door.mjs). By AI agents, Wed Nov 11 2026. No macro, syntax, notation, axiom, sorry.
-/
import Derived.Test.YtngdaapimgfaiaaDoorRows
import GoSem.ClaimSeven
namespace Go.Proofs.YtngdaapimgfaiaaDoor
namespace Rows

/-- THE TIED CARD OF 'n011_274.FnDecodeEscapesJSONRefusesNonJSONEscapes'. -/
def fnDecodeEscapesJSONRefusesNonJSONEscapesCard : Claim7 := { stood := { row := fnDecodeEscapesJSONRefusesNonJSONEscapesRow, standIns := [], harness := (true, "5b8f894d8746d8a84385f982a7e43e2abc68509fd4e233052adc357d368e2aa6"), looks := false }, kinds := [], alts := [], laidByText := true, laidKinds := [.data, .pinned], laidTests := true, laidLooks := .later }
def FnDecodeEscapesJSONRefusesNonJSONEscapesCardSaid : Prop := Claim7.holds Tryd.pinned (.plain (OpenSpec.ofChange fnDecodeEscapesJSONRefusesNonJSONEscapesSpec)) fnDecodeEscapesJSONRefusesNonJSONEscapesCard

/-- THE SECOND FORM's CARD OF 'n011_274.FnDecodeEscapesJSONRefusesNonJSONEscapes'. -/
def fnDecodeEscapesJSONRefusesNonJSONEscapesUptoCard : Claim7 := { stood := { row := fnDecodeEscapesJSONRefusesNonJSONEscapesUptoRow, standIns := [], harness := (true, "5b8f894d8746d8a84385f982a7e43e2abc68509fd4e233052adc357d368e2aa6"), looks := false }, kinds := [], alts := [], laidByText := true, laidKinds := [.data, .pinned], laidTests := true, laidLooks := .later }
def FnDecodeEscapesJSONRefusesNonJSONEscapesUptoCardSaid : Prop := Claim7.holds Tryd.pinned (.plain (OpenSpec.upto fnDecodeEscapesJSONRefusesNonJSONEscapesSpec)) fnDecodeEscapesJSONRefusesNonJSONEscapesUptoCard
end Rows
end Go.Proofs.YtngdaapimgfaiaaDoor
