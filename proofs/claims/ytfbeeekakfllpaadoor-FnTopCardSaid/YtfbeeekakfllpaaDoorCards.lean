/-
  DERIVED. GIVEN WITH THE SEED: THE CARDS: each row of YtfbeeekakfllpaaDoorRows.lean that lists a variable, with what it lists TIED to the program's text (the seventh form; the later family's looks); each row that meets fmt, with fmt's text TOLD by the authors' own Lean function (tested against real Go, not proved from fmt's source: count such statements apart). THE CARD IS WHAT COUNTS. Prove the row's statement (the work); the ties are given (YtfbeeekakfllpaaDoorTie.lean); close each card by the builder's one call (the guide's Derived/Test/ToyasCard.lean, 'card_holds'). Laid BY PROGRAM, IN A SANDBOX (cutbox-door.mjs). By AI agents, Wed Nov 11 2026. No macro, syntax, notation, axiom, sorry.
-/
import Derived.Test.YtfbeeekakfllpaaDoorRows
import GoSem.ClaimSeven
namespace Go.Proofs.YtfbeeekakfllpaaDoor
namespace Rows

/-- THE TIED CARD OF 'n011_1002.FnTop'. -/
def fnTopCard : Claim7 := { stood := { row := fnTopRow, standIns := [], harness := (true, "f9480be5070eaf0285ccc09255015a70d6d93ba063ed234edf98b4f45a9f3a44"), looks := false }, kinds := [], alts := [], laidByText := true, laidKinds := [.data, .widerDeep, .pinned], laidTests := true, laidLooks := .later }
def FnTopCardSaid : Prop := Claim7.holds Tryd.pinned (.plain (OpenSpec.ofChange fnTopSpec)) fnTopCard

/-- THE SECOND FORM's CARD OF 'n011_1002.FnTop'. -/
def fnTopUptoCard : Claim7 := { stood := { row := fnTopUptoRow, standIns := [], harness := (true, "f9480be5070eaf0285ccc09255015a70d6d93ba063ed234edf98b4f45a9f3a44"), looks := false }, kinds := [], alts := [], laidByText := true, laidKinds := [.data, .widerDeep, .pinned], laidTests := true, laidLooks := .later }
def FnTopUptoCardSaid : Prop := Claim7.holds Tryd.pinned (.plain (OpenSpec.upto fnTopSpec)) fnTopUptoCard
end Rows
end Go.Proofs.YtfbeeekakfllpaaDoor
