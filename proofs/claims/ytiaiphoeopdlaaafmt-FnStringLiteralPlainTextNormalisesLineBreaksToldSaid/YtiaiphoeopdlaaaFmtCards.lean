/-
  DERIVED. GIVEN WITH THE SEED: THE CARDS: each row of YtiaiphoeopdlaaaFmtRows.lean that lists a variable, with what it lists TIED to the program's text (the seventh form; the later family's looks); each row that meets fmt, with fmt's text TOLD by the authors' own Lean function (tested against real Go, not proved from fmt's source: count such statements apart). THE CARD IS WHAT COUNTS. Prove the row's statement (the work); the ties are given (YtiaiphoeopdlaaaFmtTie.lean); close each card by the builder's one call (the guide's Derived/Test/ToyasCard.lean, 'card_holds'). Laid BY PROGRAM, IN A SANDBOX (cutbox-door.mjs). By AI agents, Wed Nov 11 2026. No macro, syntax, notation, axiom, sorry.
-/
import Derived.Test.YtiaiphoeopdlaaaFmtRows
import GoSem.ClaimSeven
namespace Go.Proofs.YtiaiphoeopdlaaaFmt
namespace Rows

/-- THE TOLD AND TIED CARD OF 'n011_202.FnStringLiteralPlainTextNormalisesLineBreaks'. -/
def fnStringLiteralPlainTextNormalisesLineBreaksCard : Claim7 := { stood := { row := fnStringLiteralPlainTextNormalisesLineBreaksRow, standIns := [], harness := (true, "603f00a2d95e0f2cfa5ebadd6acbdfa3716f3ef0422cb891c6c9220fb388cb07"), looks := false }, told := true, laidByText := true, laidKinds := [.data, .pinned], laidTests := true, laidLooks := .later, goes := false }
def FnStringLiteralPlainTextNormalisesLineBreaksToldSaid : Prop := Claim7.holds Tryf.pinned (.plain (OpenSpec.ofChange fnStringLiteralPlainTextNormalisesLineBreaksSpec)) fnStringLiteralPlainTextNormalisesLineBreaksCard
/-- ITS FALSE NEIGHBOUR. Refute it at one input. -/
def FnStringLiteralPlainTextNormalisesLineBreaksToldWrongFalsely : Prop := Claim7.holds Tryf.pinned (.plain (OpenSpec.ofChange fnStringLiteralPlainTextNormalisesLineBreaksWrong)) fnStringLiteralPlainTextNormalisesLineBreaksCard
end Rows
end Go.Proofs.YtiaiphoeopdlaaaFmt
