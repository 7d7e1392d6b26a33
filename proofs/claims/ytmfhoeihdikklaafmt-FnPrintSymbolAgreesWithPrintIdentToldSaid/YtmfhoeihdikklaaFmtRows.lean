/-
  NARROWER THAN 'FOR EVERY INPUT', by the rows' own cells (each row's printed sentence says how): FnPrintSymbolAgreesWithPrintIdent: laid.
  DERIVED. THE GIVEN ROWS OF THIS SEAT. 1 by the template 'for every input the law returns true; each argument reads behind the call as it read before'; 0 by the template 'total and deterministic' (their statements: YtmfhoeihdikklaaFmtTotals.lean).
  GIVEN WITH THE SEED: the statements are not yours to turn. If you find one false, say at which input.
  Laid BY PROGRAM, IN A SANDBOX (cutbox-rows.mjs): the forced cells as the released guide's own fill.sh prints them over the translation c9a022167f4e60ea… (all of the seat's roots in one cut). By AI agents, Wed Nov 11 2026. No macro, syntax, notation, axiom, sorry.
-/
import Derived.Test.YtmfhoeihdikklaaFmtChecked
import GoSem.PinnedTables
import GoSem.Claim
import GoSem.ClaimJoined
import GoSem.ClaimMapViews
import Derived.JoinedTies
import Derived.KernelRfl
namespace Go.Proofs.YtmfhoeihdikklaaFmt
/- THE CELL 'sum', in the pinned program and in every row, IS THE sha256 OF THE DUMP (.gsa) THAT YtmfhoeihdikklaaFmtProg.lean LOADS. Nothing in Lean hashes anything: it is a label: what it is worth is what the hold of that sum in a sandbox is worth. -/
noncomputable def Tryf.pinned : Pinned := { name := "ytmfhoeihdikklaafmt", sum := "c9a022167f4e60ea3d78e43ee911efbac082609463e43479435898893b86d778", checked := Tryf.checked }
namespace Rows
def none {H : Type} : Left H := { results := [], args := [] }

/- WHAT THE LISTED PACKAGE-LEVEL VARIABLES READ AS WHEN THE CALL BEGINS. Each datum BY PROGRAM (the guide's laid-datum.mjs) off the statement by which the dump's own 'gosem.cut.vars' lays the variable. In a bare row this is a premise. The card (YtmfhoeihdikklaaFmtCards.lean) ties it to the program's text. -/
def laid_unicode_utf8_acceptRanges {H : Type} : DataW H := .agg [.agg [.lit (.int .u8 128), .lit (.int .u8 191)], .agg [.lit (.int .u8 160), .lit (.int .u8 191)], .agg [.lit (.int .u8 128), .lit (.int .u8 159)], .agg [.lit (.int .u8 144), .lit (.int .u8 191)], .agg [.lit (.int .u8 128), .lit (.int .u8 143)], .agg [.lit (.int .u8 0), .lit (.int .u8 0)], .agg [.lit (.int .u8 0), .lit (.int .u8 0)], .agg [.lit (.int .u8 0), .lit (.int .u8 0)], .agg [.lit (.int .u8 0), .lit (.int .u8 0)], .agg [.lit (.int .u8 0), .lit (.int .u8 0)], .agg [.lit (.int .u8 0), .lit (.int .u8 0)], .agg [.lit (.int .u8 0), .lit (.int .u8 0)], .agg [.lit (.int .u8 0), .lit (.int .u8 0)], .agg [.lit (.int .u8 0), .lit (.int .u8 0)], .agg [.lit (.int .u8 0), .lit (.int .u8 0)], .agg [.lit (.int .u8 0), .lit (.int .u8 0)]]
def laid_github_com_evanw_esbuild_internal_ast_InvalidRef {H : Type} : DataW H := .agg [.lit (.int .u32 4294967295), .lit (.int .u32 4294967295)]
def laid_github_com_evanw_esbuild_internal_sourcemap_base64 {H : Type} : DataW H := .slice [.lit (.int .u8 65), .lit (.int .u8 66), .lit (.int .u8 67), .lit (.int .u8 68), .lit (.int .u8 69), .lit (.int .u8 70), .lit (.int .u8 71), .lit (.int .u8 72), .lit (.int .u8 73), .lit (.int .u8 74), .lit (.int .u8 75), .lit (.int .u8 76), .lit (.int .u8 77), .lit (.int .u8 78), .lit (.int .u8 79), .lit (.int .u8 80), .lit (.int .u8 81), .lit (.int .u8 82), .lit (.int .u8 83), .lit (.int .u8 84), .lit (.int .u8 85), .lit (.int .u8 86), .lit (.int .u8 87), .lit (.int .u8 88), .lit (.int .u8 89), .lit (.int .u8 90), .lit (.int .u8 97), .lit (.int .u8 98), .lit (.int .u8 99), .lit (.int .u8 100), .lit (.int .u8 101), .lit (.int .u8 102), .lit (.int .u8 103), .lit (.int .u8 104), .lit (.int .u8 105), .lit (.int .u8 106), .lit (.int .u8 107), .lit (.int .u8 108), .lit (.int .u8 109), .lit (.int .u8 110), .lit (.int .u8 111), .lit (.int .u8 112), .lit (.int .u8 113), .lit (.int .u8 114), .lit (.int .u8 115), .lit (.int .u8 116), .lit (.int .u8 117), .lit (.int .u8 118), .lit (.int .u8 119), .lit (.int .u8 120), .lit (.int .u8 121), .lit (.int .u8 122), .lit (.int .u8 48), .lit (.int .u8 49), .lit (.int .u8 50), .lit (.int .u8 51), .lit (.int .u8 52), .lit (.int .u8 53), .lit (.int .u8 54), .lit (.int .u8 55), .lit (.int .u8 56), .lit (.int .u8 57), .lit (.int .u8 43), .lit (.int .u8 47)] []
/-- One of Go's own tables, pinned by name: the form's constant. -/
def laid_unicode_utf8_first : DataW Unit := Go.Pinned.utf8First

/-- 'n011_125.FnPrintSymbolAgreesWithPrintIdent': WHATEVER THE INPUT: true; the input reads as it did. -/
def fnPrintSymbolAgreesWithPrintIdentSpec : ChangeSpec := { name := "fnPrintSymbolAgreesWithPrintIdent", vars := ["github.com/evanw/esbuild/internal/ast.InvalidRef", "github.com/evanw/esbuild/internal/sourcemap.base64"], fn := fun _ => fun
  | [d1, d2, d3, d4, d5, d6, d7, d8, g1, g2] => { results := [.lit (.bool true)], args := [d1, d2, d3, d4, d5, d6, d7, d8], vars := [g1, g2] }
  | _ => none }
def fnPrintSymbolAgreesWithPrintIdentRow : OpenClaim := { program := "ytmfhoeihdikklaafmt", sum := "c9a022167f4e60ea3d78e43ee911efbac082609463e43479435898893b86d778", func := "github.com/evanw/esbuild/n011_125.FnPrintSymbolAgreesWithPrintIdent", spec := "fnPrintSymbolAgreesWithPrintIdent", stops := ["fmt.Sprintf"], inPlace := ["fmt.Sprintf"], recurses := true, named := ["github.com/evanw/esbuild/internal/ast.InvalidRef", "github.com/evanw/esbuild/internal/sourcemap.base64", "unicode/utf8.first", "unicode/utf8.acceptRanges"], plainKeys := false, apart := false, laid := [("unicode/utf8.acceptRanges", laid_unicode_utf8_acceptRanges), ("github.com/evanw/esbuild/internal/ast.InvalidRef", laid_github_com_evanw_esbuild_internal_ast_InvalidRef), ("github.com/evanw/esbuild/internal/sourcemap.base64", laid_github_com_evanw_esbuild_internal_sourcemap_base64), ("unicode/utf8.first", laid_unicode_utf8_first)] }
/-- NO THEOREM (fmt's text is open here; it may be false): for the released tool's asking of the row's closed facts alone. THE STATEMENT IS 'FnPrintSymbolAgreesWithPrintIdentToldSaid' (YtmfhoeihdikklaaFmtCards.lean). -/
def FnPrintSymbolAgreesWithPrintIdentFormAsk : Prop := fnPrintSymbolAgreesWithPrintIdentRow.holds Tryf.pinned (OpenSpec.ofChange fnPrintSymbolAgreesWithPrintIdentSpec)

/-- ITS FALSE NEIGHBOUR: 'it returns false'. Refute it at one input. -/
def fnPrintSymbolAgreesWithPrintIdentWrong : ChangeSpec := { name := "fnPrintSymbolAgreesWithPrintIdent", vars := ["github.com/evanw/esbuild/internal/ast.InvalidRef", "github.com/evanw/esbuild/internal/sourcemap.base64"], fn := fun _ => fun
  | [d1, d2, d3, d4, d5, d6, d7, d8, g1, g2] => { results := [.lit (.bool false)], args := [d1, d2, d3, d4, d5, d6, d7, d8], vars := [g1, g2] }
  | _ => none }
def FnPrintSymbolAgreesWithPrintIdentWrongFormAsk : Prop := fnPrintSymbolAgreesWithPrintIdentRow.holds Tryf.pinned (OpenSpec.ofChange fnPrintSymbolAgreesWithPrintIdentWrong)

end Rows
end Go.Proofs.YtmfhoeihdikklaaFmt
