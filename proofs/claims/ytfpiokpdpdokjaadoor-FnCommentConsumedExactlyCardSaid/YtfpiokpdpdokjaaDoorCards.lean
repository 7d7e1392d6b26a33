/-
  DERIVED. GIVEN WITH THE SEED: THE CARDS: each row of YtfpiokpdpdokjaaDoorRows.lean that lists a variable, with what it lists TIED to the program's text (the seventh form; the later family's looks); each row that meets fmt, with fmt's text TOLD by the authors' own Lean function (tested against real Go, not proved from fmt's source: count such statements apart). THE CARD IS WHAT COUNTS. Prove the row's statement (the work); the ties are given (YtfpiokpdpdokjaaDoorTie.lean); close each card by the builder's one call (the guide's Derived/Test/ToyasCard.lean, 'card_holds'). Laid BY PROGRAM, IN A SANDBOX (cutbox-door.mjs). By AI agents, Wed Nov 11 2026. No macro, syntax, notation, axiom, sorry.
-/
import Derived.Test.YtfpiokpdpdokjaaDoorRows
import GoSem.ClaimSeven
namespace Go.Proofs.YtfpiokpdpdokjaaDoor
namespace Rows

/-- THE TIED CARD OF 'n011_111.FnCommentConsumedExactly'. -/
def fnCommentConsumedExactlyCard : Claim7 := { stood := { row := fnCommentConsumedExactlyRow, standIns := [], harness := (true, "56e6f63cb98d598273d7533f6cd6df2038cf715b9cff56e2f767579bff095e42"), looks := false }, kinds := [], alts := [], laidByText := true, laidKinds := [.data, .pinned], laidTests := true, laidLooks := .later }
def FnCommentConsumedExactlyCardSaid : Prop := Claim7.holds Tryd.pinned (.plain (OpenSpec.ofChange fnCommentConsumedExactlySpec)) fnCommentConsumedExactlyCard

/-- THE SECOND FORM's CARD OF 'n011_111.FnCommentConsumedExactly'. -/
def fnCommentConsumedExactlyUptoCard : Claim7 := { stood := { row := fnCommentConsumedExactlyUptoRow, standIns := [], harness := (true, "56e6f63cb98d598273d7533f6cd6df2038cf715b9cff56e2f767579bff095e42"), looks := false }, kinds := [], alts := [], laidByText := true, laidKinds := [.data, .pinned], laidTests := true, laidLooks := .later }
def FnCommentConsumedExactlyUptoCardSaid : Prop := Claim7.holds Tryd.pinned (.plain (OpenSpec.upto fnCommentConsumedExactlySpec)) fnCommentConsumedExactlyUptoCard
end Rows
end Go.Proofs.YtfpiokpdpdokjaaDoor
