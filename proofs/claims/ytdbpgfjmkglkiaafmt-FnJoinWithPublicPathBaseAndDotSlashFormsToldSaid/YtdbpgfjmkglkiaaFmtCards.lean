/-
  DERIVED. GIVEN WITH THE SEED: THE CARDS: each row of YtdbpgfjmkglkiaaFmtRows.lean that lists a variable, with what it lists TIED to the program's text (the seventh form; the later family's looks); each row that meets fmt, with fmt's text TOLD by the authors' own Lean function (tested against real Go, not proved from fmt's source: count such statements apart). THE CARD IS WHAT COUNTS. Prove the row's statement (the work); the ties are given (YtdbpgfjmkglkiaaFmtTie.lean); close each card by the builder's one call (the guide's Derived/Test/ToyasCard.lean, 'card_holds'). Laid BY PROGRAM, IN A SANDBOX (cutbox-door.mjs). By AI agents, Wed Nov 11 2026. No macro, syntax, notation, axiom, sorry.
-/
import Derived.Test.YtdbpgfjmkglkiaaFmtRows
import GoSem.ClaimSeven
namespace Go.Proofs.YtdbpgfjmkglkiaaFmt
namespace Rows

/-- THE TOLD CARD OF 'n011_85.FnJoinWithPublicPathBaseAndDotSlashForms'. -/
def fnJoinWithPublicPathBaseAndDotSlashFormsCard : Claim7 := { stood := { row := fnJoinWithPublicPathBaseAndDotSlashFormsRow, standIns := [], harness := (true, "f65377a98be9b08de27d7cadfe9c76e1949d9018e4a90a8caec5eea03073088e"), looks := false }, told := true, goes := false }
def FnJoinWithPublicPathBaseAndDotSlashFormsToldSaid : Prop := Claim7.holds Tryf.pinned (.plain (OpenSpec.ofChange fnJoinWithPublicPathBaseAndDotSlashFormsSpec)) fnJoinWithPublicPathBaseAndDotSlashFormsCard
/-- ITS FALSE NEIGHBOUR. Refute it at one input. -/
def FnJoinWithPublicPathBaseAndDotSlashFormsToldWrongFalsely : Prop := Claim7.holds Tryf.pinned (.plain (OpenSpec.ofChange fnJoinWithPublicPathBaseAndDotSlashFormsWrong)) fnJoinWithPublicPathBaseAndDotSlashFormsCard
end Rows
end Go.Proofs.YtdbpgfjmkglkiaaFmt
