/-
  NARROWER THAN 'FOR EVERY INPUT', by the rows' own cells (each row's printed sentence says how): FnTop: laid.
  DERIVED. THE GIVEN ROWS OF THIS SEAT. 1 by the template 'for every input the law returns true; each argument reads behind the call as it read before'; 0 by the template 'total and deterministic' (their statements: YtfbeeekakfllpaaDoorTotals.lean).
  GIVEN WITH THE SEED: the statements are not yours to turn. If you find one false, say at which input.
  Laid BY PROGRAM, IN A SANDBOX (cutbox-rows.mjs): the forced cells as the released guide's own fill.sh prints them over the translation c6ac3273bb9882ec… (all of the seat's roots in one cut). By AI agents, Wed Nov 11 2026. No macro, syntax, notation, axiom, sorry.
-/
import Derived.Test.YtfbeeekakfllpaaDoorChecked
import GoSem.PinnedTables
import GoSem.Claim
import GoSem.ClaimJoined
import GoSem.ClaimMapViews
import Derived.JoinedTies
import Derived.KernelRfl
namespace Go.Proofs.YtfbeeekakfllpaaDoor
/- THE CELL 'sum', in the pinned program and in every row, IS THE sha256 OF THE DUMP (.gsa) THAT YtfbeeekakfllpaaDoorProg.lean LOADS. Nothing in Lean hashes anything: it is a label: what it is worth is what the hold of that sum in a sandbox is worth. -/
noncomputable def Tryd.pinned : Pinned := { name := "ytfbeeekakfllpaadoor", sum := "c6ac3273bb9882ecfa040b01d95a46c178d81ee18de36f34bf80ab3eaa5e771c", checked := Tryd.checked }
namespace Rows
def none {H : Type} : Left H := { results := [], args := [] }

/- WHAT THE LISTED PACKAGE-LEVEL VARIABLES READ AS WHEN THE CALL BEGINS. Each datum BY PROGRAM (the guide's laid-datum.mjs) off the statement by which the dump's own 'gosem.cut.vars' lays the variable. In a bare row this is a premise. The card (YtfbeeekakfllpaaDoorCards.lean) ties it to the program's text. -/
def laid_unicode_utf8_acceptRanges {H : Type} : DataW H := .agg [.agg [.lit (.int .u8 128), .lit (.int .u8 191)], .agg [.lit (.int .u8 160), .lit (.int .u8 191)], .agg [.lit (.int .u8 128), .lit (.int .u8 159)], .agg [.lit (.int .u8 144), .lit (.int .u8 191)], .agg [.lit (.int .u8 128), .lit (.int .u8 143)], .agg [.lit (.int .u8 0), .lit (.int .u8 0)], .agg [.lit (.int .u8 0), .lit (.int .u8 0)], .agg [.lit (.int .u8 0), .lit (.int .u8 0)], .agg [.lit (.int .u8 0), .lit (.int .u8 0)], .agg [.lit (.int .u8 0), .lit (.int .u8 0)], .agg [.lit (.int .u8 0), .lit (.int .u8 0)], .agg [.lit (.int .u8 0), .lit (.int .u8 0)], .agg [.lit (.int .u8 0), .lit (.int .u8 0)], .agg [.lit (.int .u8 0), .lit (.int .u8 0)], .agg [.lit (.int .u8 0), .lit (.int .u8 0)], .agg [.lit (.int .u8 0), .lit (.int .u8 0)]]
def laid_github_com_evanw_esbuild_internal_sourcemap_base64 {H : Type} : DataW H := .slice [.lit (.int .u8 65), .lit (.int .u8 66), .lit (.int .u8 67), .lit (.int .u8 68), .lit (.int .u8 69), .lit (.int .u8 70), .lit (.int .u8 71), .lit (.int .u8 72), .lit (.int .u8 73), .lit (.int .u8 74), .lit (.int .u8 75), .lit (.int .u8 76), .lit (.int .u8 77), .lit (.int .u8 78), .lit (.int .u8 79), .lit (.int .u8 80), .lit (.int .u8 81), .lit (.int .u8 82), .lit (.int .u8 83), .lit (.int .u8 84), .lit (.int .u8 85), .lit (.int .u8 86), .lit (.int .u8 87), .lit (.int .u8 88), .lit (.int .u8 89), .lit (.int .u8 90), .lit (.int .u8 97), .lit (.int .u8 98), .lit (.int .u8 99), .lit (.int .u8 100), .lit (.int .u8 101), .lit (.int .u8 102), .lit (.int .u8 103), .lit (.int .u8 104), .lit (.int .u8 105), .lit (.int .u8 106), .lit (.int .u8 107), .lit (.int .u8 108), .lit (.int .u8 109), .lit (.int .u8 110), .lit (.int .u8 111), .lit (.int .u8 112), .lit (.int .u8 113), .lit (.int .u8 114), .lit (.int .u8 115), .lit (.int .u8 116), .lit (.int .u8 117), .lit (.int .u8 118), .lit (.int .u8 119), .lit (.int .u8 120), .lit (.int .u8 121), .lit (.int .u8 122), .lit (.int .u8 48), .lit (.int .u8 49), .lit (.int .u8 50), .lit (.int .u8 51), .lit (.int .u8 52), .lit (.int .u8 53), .lit (.int .u8 54), .lit (.int .u8 55), .lit (.int .u8 56), .lit (.int .u8 57), .lit (.int .u8 43), .lit (.int .u8 47)] []
/-- One of Go's own tables, pinned by name: the form's constant. -/
def laid_unicode_utf8_first : DataW Unit := Go.Pinned.utf8First

/-- 'n011_1002.FnTop': WHATEVER THE INPUT: true; the input reads as it did. -/
def fnTopSpec : ChangeSpec := { name := "fnTop", vars := ["github.com/evanw/esbuild/internal/sourcemap.base64"], fn := fun _ => fun
  | [d, g1] => { results := [.lit (.bool true)], args := [d], vars := [g1] }
  | _ => none }
def fnTopRow : OpenClaim := { program := "ytfbeeekakfllpaadoor", sum := "c6ac3273bb9882ecfa040b01d95a46c178d81ee18de36f34bf80ab3eaa5e771c", func := "github.com/evanw/esbuild/n011_1002.FnTop", spec := "fnTop", inPlace := ["internal/abi.NoEscape", "internal/bytealg.IndexByteString"], named := ["unicode/utf8.first", "unicode/utf8.acceptRanges", "github.com/evanw/esbuild/internal/sourcemap.base64"], apart := false, laid := [("unicode/utf8.acceptRanges", laid_unicode_utf8_acceptRanges), ("github.com/evanw/esbuild/internal/sourcemap.base64", laid_github_com_evanw_esbuild_internal_sourcemap_base64), ("unicode/utf8.first", laid_unicode_utf8_first)] }
def FnTopSaid : Prop := fnTopRow.holds Tryd.pinned (OpenSpec.ofChange fnTopSpec)

/-- ITS FALSE NEIGHBOUR: 'it returns false'. Refute it at one input. -/
def fnTopWrong : ChangeSpec := { name := "fnTop", vars := ["github.com/evanw/esbuild/internal/sourcemap.base64"], fn := fun _ => fun
  | [d, g1] => { results := [.lit (.bool false)], args := [d], vars := [g1] }
  | _ => none }
def FnTopWrongFalsely : Prop := fnTopRow.holds Tryd.pinned (OpenSpec.ofChange fnTopWrong)

/- THE SECOND FORM. 'bulk': how many values and letters a reading holds, each counted each time it is reached (what is shared counts as often as it is met; a slice's spare places count too). A statement '..UptoSaid' is the law's where the arguments, and the package variables that the reading takes, are together of bulk at most 1048576: NARROWER than '..Said'. Prove '..Said' where nothing that the law and all that it calls make is longer than what came in: it says more and counts as full. Else prove '..UptoSaid'. A law counts once. -/
mutual
def uptoBulk {H : Type} : DataW H → Nat
  | .lit (.string bytes) => bytes.length + 1
  | .lit _ => 1
  | .nil => 1
  | .ptr d => uptoBulk d + 1
  | .slice elems spare => uptoBulkAll elems + uptoBulkAll spare + 1
  | .agg parts => uptoBulkAll parts + 1
  | .iface _ d => uptoBulk d + 1
  | .map entries => uptoBulkEntries entries + 1
  | .held _ => 1
def uptoBulkAll {H : Type} : List (DataW H) → Nat
  | [] => 0
  | d :: r => uptoBulk d + uptoBulkAll r
def uptoBulkEntries {H : Type} : List (Lit × DataW H) → Nat
  | [] => 0
  | x :: r => uptoBulkEntry x + uptoBulkEntries r
def uptoBulkEntry {H : Type} : Lit × DataW H → Nat
  | (.string bytes, d) => bytes.length + uptoBulk d + 1
  | (_, d) => uptoBulk d + 1
 end
def uptoSmall : (H : Type) → List (DataW H) → Bool := fun _ ds => decide (uptoBulkAll ds ≤ 1048576)
def OpenSpec.upto (s : _root_.Go.ChangeSpec) : _root_.Go.OpenSpec := { _root_.Go.OpenSpec.ofChange s with cond := some uptoSmall }

/-- 'n011_1002.FnTop', WHERE WHAT IT READS IS OF BULK AT MOST 1048576: true; the input reads as it did. -/
def fnTopUptoRow : OpenClaim := { program := "ytfbeeekakfllpaadoor", sum := "c6ac3273bb9882ecfa040b01d95a46c178d81ee18de36f34bf80ab3eaa5e771c", func := "github.com/evanw/esbuild/n011_1002.FnTop", spec := "fnTop", inPlace := ["internal/abi.NoEscape", "internal/bytealg.IndexByteString"], named := ["unicode/utf8.first", "unicode/utf8.acceptRanges", "github.com/evanw/esbuild/internal/sourcemap.base64"], apart := false, laid := [("unicode/utf8.acceptRanges", laid_unicode_utf8_acceptRanges), ("github.com/evanw/esbuild/internal/sourcemap.base64", laid_github_com_evanw_esbuild_internal_sourcemap_base64), ("unicode/utf8.first", laid_unicode_utf8_first)], narrowed := true }
def FnTopUptoSaid : Prop := fnTopUptoRow.holds Tryd.pinned (OpenSpec.upto fnTopSpec)

end Rows
end Go.Proofs.YtfbeeekakfllpaaDoor
