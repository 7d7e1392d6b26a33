/-
  DERIVED. GIVEN WITH THE SEED: THE CARDS: each row of YtfacjljamebalaaFmtRows.lean that lists a variable, with what it lists TIED to the program's text (the seventh form; the later family's looks); each row that meets fmt, with fmt's text TOLD by the authors' own Lean function (tested against real Go, not proved from fmt's source: count such statements apart). THE CARD IS WHAT COUNTS. Prove the row's statement (the work); the ties are given (YtfacjljamebalaaFmtTie.lean); close each card by the builder's one call (the guide's Derived/Test/ToyasCard.lean, 'card_holds'). Laid BY PROGRAM, IN A SANDBOX (cutbox-door.mjs). By AI agents, Wed Nov 11 2026. No macro, syntax, notation, axiom, sorry.
-/
import Derived.Test.YtfacjljamebalaaFmtRows
import GoSem.ClaimSeven
namespace Go.Proofs.YtfacjljamebalaaFmt
namespace Rows

/-- THE TOLD AND TIED CARD OF 'n011_276.FnNamespacedNameIdentEscapesAndUnescapes'. -/
def fnNamespacedNameIdentEscapesAndUnescapesCard : Claim7 := { stood := { row := fnNamespacedNameIdentEscapesAndUnescapesRow, standIns := [], harness := (true, "785b9f806b84ccd54fb6cb96eb7b25c0efba3fad315527f20a7e3bbfd25d994d"), looks := false }, told := true, laidByText := true, laidKinds := [.data, .widerDeep, .pinned], laidTests := true, laidLooks := .later, goes := false }
def FnNamespacedNameIdentEscapesAndUnescapesToldSaid : Prop := Claim7.holds Tryf.pinned (.plain (OpenSpec.ofChange fnNamespacedNameIdentEscapesAndUnescapesSpec)) fnNamespacedNameIdentEscapesAndUnescapesCard
/-- ITS FALSE NEIGHBOUR. Refute it at one input. -/
def FnNamespacedNameIdentEscapesAndUnescapesToldWrongFalsely : Prop := Claim7.holds Tryf.pinned (.plain (OpenSpec.ofChange fnNamespacedNameIdentEscapesAndUnescapesWrong)) fnNamespacedNameIdentEscapesAndUnescapesCard
end Rows
end Go.Proofs.YtfacjljamebalaaFmt
