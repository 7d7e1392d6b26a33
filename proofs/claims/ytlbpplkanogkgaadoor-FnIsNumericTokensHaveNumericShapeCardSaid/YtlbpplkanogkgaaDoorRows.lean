/-
  NARROWER THAN 'FOR EVERY INPUT', by the rows' own cells (each row's printed sentence says how): FnStepMatchesUTF8Model: laid · FnStepMatchesUTF8ModelAndCountsNewlines: laid · FnConsumeNameStopsAtNonName: laid · FnConsumeNumericShape: laid · FnTokenizeTilesInputWithoutComments: laid · FnIsNumericTokensHaveNumericShape: laid · FnCommentConsumedExactly: laid.
  DERIVED. THE GIVEN ROWS OF THIS SEAT. 7 by the template 'for every input the law returns true; each argument reads behind the call as it read before'; 0 by the template 'total and deterministic' (their statements: YtlbpplkanogkgaaDoorTotals.lean).
  GIVEN WITH THE SEED: the statements are not yours to turn. If you find one false, say at which input.
  Laid BY PROGRAM, IN A SANDBOX (cutbox-rows.mjs): the forced cells as the released guide's own fill.sh prints them over the translation 13ca86f5fd1f0852… (all of the seat's roots in one cut). By AI agents, Wed Nov 11 2026. No macro, syntax, notation, axiom, sorry.
-/
import Derived.Test.YtlbpplkanogkgaaDoorChecked
import GoSem.PinnedTables
import GoSem.Claim
import GoSem.ClaimJoined
import GoSem.ClaimMapViews
import Derived.JoinedTies
import Derived.KernelRfl
namespace Go.Proofs.YtlbpplkanogkgaaDoor
/- THE CELL 'sum', in the pinned program and in every row, IS THE sha256 OF THE DUMP (.gsa) THAT YtlbpplkanogkgaaDoorProg.lean LOADS. Nothing in Lean hashes anything: it is a label: what it is worth is what the hold of that sum in a sandbox is worth. -/
noncomputable def Tryd.pinned : Pinned := { name := "ytlbpplkanogkgaadoor", sum := "13ca86f5fd1f0852a8f29be37ba0d4e544c8464440f9ddc0ab38e30c5188ce6e", checked := Tryd.checked }
namespace Rows
def none {H : Type} : Left H := { results := [], args := [] }

/- WHAT THE LISTED PACKAGE-LEVEL VARIABLES READ AS WHEN THE CALL BEGINS. Each datum BY PROGRAM (the guide's laid-datum.mjs) off the statement by which the dump's own 'gosem.cut.vars' lays the variable. In a bare row this is a premise. The card (YtlbpplkanogkgaaDoorCards.lean) ties it to the program's text. -/
def laid_unicode_utf8_acceptRanges {H : Type} : DataW H := .agg [.agg [.lit (.int .u8 128), .lit (.int .u8 191)], .agg [.lit (.int .u8 160), .lit (.int .u8 191)], .agg [.lit (.int .u8 128), .lit (.int .u8 159)], .agg [.lit (.int .u8 144), .lit (.int .u8 191)], .agg [.lit (.int .u8 128), .lit (.int .u8 143)], .agg [.lit (.int .u8 0), .lit (.int .u8 0)], .agg [.lit (.int .u8 0), .lit (.int .u8 0)], .agg [.lit (.int .u8 0), .lit (.int .u8 0)], .agg [.lit (.int .u8 0), .lit (.int .u8 0)], .agg [.lit (.int .u8 0), .lit (.int .u8 0)], .agg [.lit (.int .u8 0), .lit (.int .u8 0)], .agg [.lit (.int .u8 0), .lit (.int .u8 0)], .agg [.lit (.int .u8 0), .lit (.int .u8 0)], .agg [.lit (.int .u8 0), .lit (.int .u8 0)], .agg [.lit (.int .u8 0), .lit (.int .u8 0)], .agg [.lit (.int .u8 0), .lit (.int .u8 0)]]
/-- One of Go's own tables, pinned by name: the form's constant. -/
def laid_unicode_utf8_first : DataW Unit := Go.Pinned.utf8First

/-- 'n011_93.FnStepMatchesUTF8Model': WHATEVER THE INPUT: true; the input reads as it did. -/
def fnStepMatchesUTF8ModelSpec : ChangeSpec := { name := "fnStepMatchesUTF8Model", fn := fun _ => fun
  | [d1, d2, d3] => { results := [.lit (.bool true)], args := [d1, d2, d3] }
  | _ => none }
def fnStepMatchesUTF8ModelRow : OpenClaim := { program := "ytlbpplkanogkgaadoor", sum := "13ca86f5fd1f0852a8f29be37ba0d4e544c8464440f9ddc0ab38e30c5188ce6e", func := "github.com/evanw/esbuild/n011_93.FnStepMatchesUTF8Model", spec := "fnStepMatchesUTF8Model", named := ["unicode/utf8.first", "unicode/utf8.acceptRanges"], apart := false, laid := [("unicode/utf8.acceptRanges", laid_unicode_utf8_acceptRanges), ("unicode/utf8.first", laid_unicode_utf8_first)] }
def FnStepMatchesUTF8ModelSaid : Prop := fnStepMatchesUTF8ModelRow.holds Tryd.pinned (OpenSpec.ofChange fnStepMatchesUTF8ModelSpec)

/-- ITS FALSE NEIGHBOUR: 'it returns false'. Refute it at one input. -/
def fnStepMatchesUTF8ModelWrong : ChangeSpec := { name := "fnStepMatchesUTF8Model", fn := fun _ => fun
  | [d1, d2, d3] => { results := [.lit (.bool false)], args := [d1, d2, d3] }
  | _ => none }
def FnStepMatchesUTF8ModelWrongFalsely : Prop := fnStepMatchesUTF8ModelRow.holds Tryd.pinned (OpenSpec.ofChange fnStepMatchesUTF8ModelWrong)

/-- 'n011_111.FnStepMatchesUTF8ModelAndCountsNewlines': WHATEVER THE INPUT: true; the input reads as it did. -/
def fnStepMatchesUTF8ModelAndCountsNewlinesSpec : ChangeSpec := { name := "fnStepMatchesUTF8ModelAndCountsNewlines", fn := fun _ => fun
  | [d] => { results := [.lit (.bool true)], args := [d] }
  | _ => none }
def fnStepMatchesUTF8ModelAndCountsNewlinesRow : OpenClaim := { program := "ytlbpplkanogkgaadoor", sum := "13ca86f5fd1f0852a8f29be37ba0d4e544c8464440f9ddc0ab38e30c5188ce6e", func := "github.com/evanw/esbuild/n011_111.FnStepMatchesUTF8ModelAndCountsNewlines", spec := "fnStepMatchesUTF8ModelAndCountsNewlines", named := ["unicode/utf8.first", "unicode/utf8.acceptRanges"], apart := false, laid := [("unicode/utf8.acceptRanges", laid_unicode_utf8_acceptRanges), ("unicode/utf8.first", laid_unicode_utf8_first)] }
def FnStepMatchesUTF8ModelAndCountsNewlinesSaid : Prop := fnStepMatchesUTF8ModelAndCountsNewlinesRow.holds Tryd.pinned (OpenSpec.ofChange fnStepMatchesUTF8ModelAndCountsNewlinesSpec)

/-- ITS FALSE NEIGHBOUR: 'it returns false'. Refute it at one input. -/
def fnStepMatchesUTF8ModelAndCountsNewlinesWrong : ChangeSpec := { name := "fnStepMatchesUTF8ModelAndCountsNewlines", fn := fun _ => fun
  | [d] => { results := [.lit (.bool false)], args := [d] }
  | _ => none }
def FnStepMatchesUTF8ModelAndCountsNewlinesWrongFalsely : Prop := fnStepMatchesUTF8ModelAndCountsNewlinesRow.holds Tryd.pinned (OpenSpec.ofChange fnStepMatchesUTF8ModelAndCountsNewlinesWrong)

/-- 'n011_170.FnConsumeNameStopsAtNonName': WHATEVER THE INPUT: true; the input reads as it did. -/
def fnConsumeNameStopsAtNonNameSpec : ChangeSpec := { name := "fnConsumeNameStopsAtNonName", fn := fun _ => fun
  | [d] => { results := [.lit (.bool true)], args := [d] }
  | _ => none }
def fnConsumeNameStopsAtNonNameRow : OpenClaim := { program := "ytlbpplkanogkgaadoor", sum := "13ca86f5fd1f0852a8f29be37ba0d4e544c8464440f9ddc0ab38e30c5188ce6e", func := "github.com/evanw/esbuild/n011_170.FnConsumeNameStopsAtNonName", spec := "fnConsumeNameStopsAtNonName", inPlace := ["internal/abi.NoEscape"], named := ["unicode/utf8.first", "unicode/utf8.acceptRanges"], apart := false, laid := [("unicode/utf8.acceptRanges", laid_unicode_utf8_acceptRanges), ("unicode/utf8.first", laid_unicode_utf8_first)] }
def FnConsumeNameStopsAtNonNameSaid : Prop := fnConsumeNameStopsAtNonNameRow.holds Tryd.pinned (OpenSpec.ofChange fnConsumeNameStopsAtNonNameSpec)

/-- ITS FALSE NEIGHBOUR: 'it returns false'. Refute it at one input. -/
def fnConsumeNameStopsAtNonNameWrong : ChangeSpec := { name := "fnConsumeNameStopsAtNonName", fn := fun _ => fun
  | [d] => { results := [.lit (.bool false)], args := [d] }
  | _ => none }
def FnConsumeNameStopsAtNonNameWrongFalsely : Prop := fnConsumeNameStopsAtNonNameRow.holds Tryd.pinned (OpenSpec.ofChange fnConsumeNameStopsAtNonNameWrong)

/-- 'n011_311.FnConsumeNumericShape': WHATEVER THE INPUT: true; the input reads as it did. -/
def fnConsumeNumericShapeSpec : ChangeSpec := { name := "fnConsumeNumericShape", fn := fun _ => fun
  | [d1, d2] => { results := [.lit (.bool true)], args := [d1, d2] }
  | _ => none }
def fnConsumeNumericShapeRow : OpenClaim := { program := "ytlbpplkanogkgaadoor", sum := "13ca86f5fd1f0852a8f29be37ba0d4e544c8464440f9ddc0ab38e30c5188ce6e", func := "github.com/evanw/esbuild/n011_311.FnConsumeNumericShape", spec := "fnConsumeNumericShape", inPlace := ["(*internal/sync.Mutex).Lock", "internal/race.Disable", "sync/atomic.CompareAndSwapInt32", "internal/race.Enable", "internal/race.Acquire", "(*internal/sync.Mutex).lockSlow", "internal/sync.runtime_canSpin", "internal/sync.runtime_doSpin", "internal/sync.throw", "internal/sync.runtime_nanotime", "internal/sync.runtime_SemacquireMutex", "sync/atomic.AddInt32", "(*internal/sync.Mutex).Unlock", "internal/race.ReleaseMerge", "(*internal/sync.Mutex).unlockSlow", "internal/sync.fatal", "internal/sync.runtime_Semrelease", "internal/abi.NoEscape"], unfollowed := true, recurses := true, named := ["unicode/utf8.first", "unicode/utf8.acceptRanges"], apart := false, laid := [("unicode/utf8.acceptRanges", laid_unicode_utf8_acceptRanges), ("unicode/utf8.first", laid_unicode_utf8_first)] }
def FnConsumeNumericShapeSaid : Prop := fnConsumeNumericShapeRow.holds Tryd.pinned (OpenSpec.ofChange fnConsumeNumericShapeSpec)

/-- ITS FALSE NEIGHBOUR: 'it returns false'. Refute it at one input. -/
def fnConsumeNumericShapeWrong : ChangeSpec := { name := "fnConsumeNumericShape", fn := fun _ => fun
  | [d1, d2] => { results := [.lit (.bool false)], args := [d1, d2] }
  | _ => none }
def FnConsumeNumericShapeWrongFalsely : Prop := fnConsumeNumericShapeRow.holds Tryd.pinned (OpenSpec.ofChange fnConsumeNumericShapeWrong)

/-- 'n011_281.FnTokenizeTilesInputWithoutComments': WHATEVER THE INPUT: true; the input reads as it did. -/
def fnTokenizeTilesInputWithoutCommentsSpec : ChangeSpec := { name := "fnTokenizeTilesInputWithoutComments", fn := fun _ => fun
  | [d1, d2] => { results := [.lit (.bool true)], args := [d1, d2] }
  | _ => none }
def fnTokenizeTilesInputWithoutCommentsRow : OpenClaim := { program := "ytlbpplkanogkgaadoor", sum := "13ca86f5fd1f0852a8f29be37ba0d4e544c8464440f9ddc0ab38e30c5188ce6e", func := "github.com/evanw/esbuild/n011_281.FnTokenizeTilesInputWithoutComments", spec := "fnTokenizeTilesInputWithoutComments", inPlace := ["internal/abi.NoEscape", "internal/bytealg.MakeNoZero"], unfollowed := true, recurses := true, named := ["unicode/utf8.first", "unicode/utf8.acceptRanges"], apart := false, laid := [("unicode/utf8.acceptRanges", laid_unicode_utf8_acceptRanges), ("unicode/utf8.first", laid_unicode_utf8_first)] }
def FnTokenizeTilesInputWithoutCommentsSaid : Prop := fnTokenizeTilesInputWithoutCommentsRow.holds Tryd.pinned (OpenSpec.ofChange fnTokenizeTilesInputWithoutCommentsSpec)

/-- ITS FALSE NEIGHBOUR: 'it returns false'. Refute it at one input. -/
def fnTokenizeTilesInputWithoutCommentsWrong : ChangeSpec := { name := "fnTokenizeTilesInputWithoutComments", fn := fun _ => fun
  | [d1, d2] => { results := [.lit (.bool false)], args := [d1, d2] }
  | _ => none }
def FnTokenizeTilesInputWithoutCommentsWrongFalsely : Prop := fnTokenizeTilesInputWithoutCommentsRow.holds Tryd.pinned (OpenSpec.ofChange fnTokenizeTilesInputWithoutCommentsWrong)

/-- 'n011_281.FnIsNumericTokensHaveNumericShape': WHATEVER THE INPUT: true; the input reads as it did. -/
def fnIsNumericTokensHaveNumericShapeSpec : ChangeSpec := { name := "fnIsNumericTokensHaveNumericShape", fn := fun _ => fun
  | [d] => { results := [.lit (.bool true)], args := [d] }
  | _ => none }
def fnIsNumericTokensHaveNumericShapeRow : OpenClaim := { program := "ytlbpplkanogkgaadoor", sum := "13ca86f5fd1f0852a8f29be37ba0d4e544c8464440f9ddc0ab38e30c5188ce6e", func := "github.com/evanw/esbuild/n011_281.FnIsNumericTokensHaveNumericShape", spec := "fnIsNumericTokensHaveNumericShape", inPlace := ["internal/abi.NoEscape", "internal/bytealg.MakeNoZero"], unfollowed := true, recurses := true, named := ["unicode/utf8.first", "unicode/utf8.acceptRanges"], apart := false, laid := [("unicode/utf8.acceptRanges", laid_unicode_utf8_acceptRanges), ("unicode/utf8.first", laid_unicode_utf8_first)] }
def FnIsNumericTokensHaveNumericShapeSaid : Prop := fnIsNumericTokensHaveNumericShapeRow.holds Tryd.pinned (OpenSpec.ofChange fnIsNumericTokensHaveNumericShapeSpec)

/-- ITS FALSE NEIGHBOUR: 'it returns false'. Refute it at one input. -/
def fnIsNumericTokensHaveNumericShapeWrong : ChangeSpec := { name := "fnIsNumericTokensHaveNumericShape", fn := fun _ => fun
  | [d] => { results := [.lit (.bool false)], args := [d] }
  | _ => none }
def FnIsNumericTokensHaveNumericShapeWrongFalsely : Prop := fnIsNumericTokensHaveNumericShapeRow.holds Tryd.pinned (OpenSpec.ofChange fnIsNumericTokensHaveNumericShapeWrong)

/-- 'n011_111.FnCommentConsumedExactly': WHATEVER THE INPUT: true; the input reads as it did. -/
def fnCommentConsumedExactlySpec : ChangeSpec := { name := "fnCommentConsumedExactly", fn := fun _ => fun
  | [d1, d2, d3] => { results := [.lit (.bool true)], args := [d1, d2, d3] }
  | _ => none }
def fnCommentConsumedExactlyRow : OpenClaim := { program := "ytlbpplkanogkgaadoor", sum := "13ca86f5fd1f0852a8f29be37ba0d4e544c8464440f9ddc0ab38e30c5188ce6e", func := "github.com/evanw/esbuild/n011_111.FnCommentConsumedExactly", spec := "fnCommentConsumedExactly", inPlace := ["internal/abi.NoEscape", "internal/bytealg.MakeNoZero"], unfollowed := true, recurses := true, named := ["unicode/utf8.first", "unicode/utf8.acceptRanges"], apart := false, laid := [("unicode/utf8.acceptRanges", laid_unicode_utf8_acceptRanges), ("unicode/utf8.first", laid_unicode_utf8_first)] }
def FnCommentConsumedExactlySaid : Prop := fnCommentConsumedExactlyRow.holds Tryd.pinned (OpenSpec.ofChange fnCommentConsumedExactlySpec)

/-- ITS FALSE NEIGHBOUR: 'it returns false'. Refute it at one input. -/
def fnCommentConsumedExactlyWrong : ChangeSpec := { name := "fnCommentConsumedExactly", fn := fun _ => fun
  | [d1, d2, d3] => { results := [.lit (.bool false)], args := [d1, d2, d3] }
  | _ => none }
def FnCommentConsumedExactlyWrongFalsely : Prop := fnCommentConsumedExactlyRow.holds Tryd.pinned (OpenSpec.ofChange fnCommentConsumedExactlyWrong)

/- THE SECOND FORM. 'bulk': how many values and letters a reading holds, each counted each time it is reached (what is shared counts as often as it is met; a slice's spare places count too). A statement '..UptoSaid' is the law's where the arguments, and the package variables that the reading takes, are together of bulk at most 1048576: NARROWER than '..Said'. Prove '..Said' where nothing that the law and all that it calls make is longer than what came in: it says more and counts as full. Else prove '..UptoSaid'. A law counts once. -/
mutual
def uptoBulk {H : Type} : DataW H → Nat
  | .lit (.string bytes) => bytes.length + 1
  | .lit _ => 1
  | .nil => 1
  | .ptr d => uptoBulk d + 1
  | .slice elems spare => uptoBulkAll elems + uptoBulkAll spare + 1
  | .agg parts => uptoBulkAll parts + 1
  | .iface _ d => uptoBulk d + 1
  | .map entries => uptoBulkEntries entries + 1
  | .held _ => 1
def uptoBulkAll {H : Type} : List (DataW H) → Nat
  | [] => 0
  | d :: r => uptoBulk d + uptoBulkAll r
def uptoBulkEntries {H : Type} : List (Lit × DataW H) → Nat
  | [] => 0
  | x :: r => uptoBulkEntry x + uptoBulkEntries r
def uptoBulkEntry {H : Type} : Lit × DataW H → Nat
  | (.string bytes, d) => bytes.length + uptoBulk d + 1
  | (_, d) => uptoBulk d + 1
 end
def uptoSmall : (H : Type) → List (DataW H) → Bool := fun _ ds => decide (uptoBulkAll ds ≤ 1048576)
def OpenSpec.upto (s : _root_.Go.ChangeSpec) : _root_.Go.OpenSpec := { _root_.Go.OpenSpec.ofChange s with cond := some uptoSmall }

/-- 'n011_93.FnStepMatchesUTF8Model', WHERE WHAT IT READS IS OF BULK AT MOST 1048576: true; the input reads as it did. -/
def fnStepMatchesUTF8ModelUptoRow : OpenClaim := { program := "ytlbpplkanogkgaadoor", sum := "13ca86f5fd1f0852a8f29be37ba0d4e544c8464440f9ddc0ab38e30c5188ce6e", func := "github.com/evanw/esbuild/n011_93.FnStepMatchesUTF8Model", spec := "fnStepMatchesUTF8Model", named := ["unicode/utf8.first", "unicode/utf8.acceptRanges"], apart := false, laid := [("unicode/utf8.acceptRanges", laid_unicode_utf8_acceptRanges), ("unicode/utf8.first", laid_unicode_utf8_first)], narrowed := true }
def FnStepMatchesUTF8ModelUptoSaid : Prop := fnStepMatchesUTF8ModelUptoRow.holds Tryd.pinned (OpenSpec.upto fnStepMatchesUTF8ModelSpec)

/-- 'n011_111.FnStepMatchesUTF8ModelAndCountsNewlines', WHERE WHAT IT READS IS OF BULK AT MOST 1048576: true; the input reads as it did. -/
def fnStepMatchesUTF8ModelAndCountsNewlinesUptoRow : OpenClaim := { program := "ytlbpplkanogkgaadoor", sum := "13ca86f5fd1f0852a8f29be37ba0d4e544c8464440f9ddc0ab38e30c5188ce6e", func := "github.com/evanw/esbuild/n011_111.FnStepMatchesUTF8ModelAndCountsNewlines", spec := "fnStepMatchesUTF8ModelAndCountsNewlines", named := ["unicode/utf8.first", "unicode/utf8.acceptRanges"], apart := false, laid := [("unicode/utf8.acceptRanges", laid_unicode_utf8_acceptRanges), ("unicode/utf8.first", laid_unicode_utf8_first)], narrowed := true }
def FnStepMatchesUTF8ModelAndCountsNewlinesUptoSaid : Prop := fnStepMatchesUTF8ModelAndCountsNewlinesUptoRow.holds Tryd.pinned (OpenSpec.upto fnStepMatchesUTF8ModelAndCountsNewlinesSpec)

/-- 'n011_170.FnConsumeNameStopsAtNonName', WHERE WHAT IT READS IS OF BULK AT MOST 1048576: true; the input reads as it did. -/
def fnConsumeNameStopsAtNonNameUptoRow : OpenClaim := { program := "ytlbpplkanogkgaadoor", sum := "13ca86f5fd1f0852a8f29be37ba0d4e544c8464440f9ddc0ab38e30c5188ce6e", func := "github.com/evanw/esbuild/n011_170.FnConsumeNameStopsAtNonName", spec := "fnConsumeNameStopsAtNonName", inPlace := ["internal/abi.NoEscape"], named := ["unicode/utf8.first", "unicode/utf8.acceptRanges"], apart := false, laid := [("unicode/utf8.acceptRanges", laid_unicode_utf8_acceptRanges), ("unicode/utf8.first", laid_unicode_utf8_first)], narrowed := true }
def FnConsumeNameStopsAtNonNameUptoSaid : Prop := fnConsumeNameStopsAtNonNameUptoRow.holds Tryd.pinned (OpenSpec.upto fnConsumeNameStopsAtNonNameSpec)

/-- 'n011_311.FnConsumeNumericShape', WHERE WHAT IT READS IS OF BULK AT MOST 1048576: true; the input reads as it did. -/
def fnConsumeNumericShapeUptoRow : OpenClaim := { program := "ytlbpplkanogkgaadoor", sum := "13ca86f5fd1f0852a8f29be37ba0d4e544c8464440f9ddc0ab38e30c5188ce6e", func := "github.com/evanw/esbuild/n011_311.FnConsumeNumericShape", spec := "fnConsumeNumericShape", inPlace := ["(*internal/sync.Mutex).Lock", "internal/race.Disable", "sync/atomic.CompareAndSwapInt32", "internal/race.Enable", "internal/race.Acquire", "(*internal/sync.Mutex).lockSlow", "internal/sync.runtime_canSpin", "internal/sync.runtime_doSpin", "internal/sync.throw", "internal/sync.runtime_nanotime", "internal/sync.runtime_SemacquireMutex", "sync/atomic.AddInt32", "(*internal/sync.Mutex).Unlock", "internal/race.ReleaseMerge", "(*internal/sync.Mutex).unlockSlow", "internal/sync.fatal", "internal/sync.runtime_Semrelease", "internal/abi.NoEscape"], unfollowed := true, recurses := true, named := ["unicode/utf8.first", "unicode/utf8.acceptRanges"], apart := false, laid := [("unicode/utf8.acceptRanges", laid_unicode_utf8_acceptRanges), ("unicode/utf8.first", laid_unicode_utf8_first)], narrowed := true }
def FnConsumeNumericShapeUptoSaid : Prop := fnConsumeNumericShapeUptoRow.holds Tryd.pinned (OpenSpec.upto fnConsumeNumericShapeSpec)

/-- 'n011_281.FnTokenizeTilesInputWithoutComments', WHERE WHAT IT READS IS OF BULK AT MOST 1048576: true; the input reads as it did. -/
def fnTokenizeTilesInputWithoutCommentsUptoRow : OpenClaim := { program := "ytlbpplkanogkgaadoor", sum := "13ca86f5fd1f0852a8f29be37ba0d4e544c8464440f9ddc0ab38e30c5188ce6e", func := "github.com/evanw/esbuild/n011_281.FnTokenizeTilesInputWithoutComments", spec := "fnTokenizeTilesInputWithoutComments", inPlace := ["internal/abi.NoEscape", "internal/bytealg.MakeNoZero"], unfollowed := true, recurses := true, named := ["unicode/utf8.first", "unicode/utf8.acceptRanges"], apart := false, laid := [("unicode/utf8.acceptRanges", laid_unicode_utf8_acceptRanges), ("unicode/utf8.first", laid_unicode_utf8_first)], narrowed := true }
def FnTokenizeTilesInputWithoutCommentsUptoSaid : Prop := fnTokenizeTilesInputWithoutCommentsUptoRow.holds Tryd.pinned (OpenSpec.upto fnTokenizeTilesInputWithoutCommentsSpec)

/-- 'n011_281.FnIsNumericTokensHaveNumericShape', WHERE WHAT IT READS IS OF BULK AT MOST 1048576: true; the input reads as it did. -/
def fnIsNumericTokensHaveNumericShapeUptoRow : OpenClaim := { program := "ytlbpplkanogkgaadoor", sum := "13ca86f5fd1f0852a8f29be37ba0d4e544c8464440f9ddc0ab38e30c5188ce6e", func := "github.com/evanw/esbuild/n011_281.FnIsNumericTokensHaveNumericShape", spec := "fnIsNumericTokensHaveNumericShape", inPlace := ["internal/abi.NoEscape", "internal/bytealg.MakeNoZero"], unfollowed := true, recurses := true, named := ["unicode/utf8.first", "unicode/utf8.acceptRanges"], apart := false, laid := [("unicode/utf8.acceptRanges", laid_unicode_utf8_acceptRanges), ("unicode/utf8.first", laid_unicode_utf8_first)], narrowed := true }
def FnIsNumericTokensHaveNumericShapeUptoSaid : Prop := fnIsNumericTokensHaveNumericShapeUptoRow.holds Tryd.pinned (OpenSpec.upto fnIsNumericTokensHaveNumericShapeSpec)

/-- 'n011_111.FnCommentConsumedExactly', WHERE WHAT IT READS IS OF BULK AT MOST 1048576: true; the input reads as it did. -/
def fnCommentConsumedExactlyUptoRow : OpenClaim := { program := "ytlbpplkanogkgaadoor", sum := "13ca86f5fd1f0852a8f29be37ba0d4e544c8464440f9ddc0ab38e30c5188ce6e", func := "github.com/evanw/esbuild/n011_111.FnCommentConsumedExactly", spec := "fnCommentConsumedExactly", inPlace := ["internal/abi.NoEscape", "internal/bytealg.MakeNoZero"], unfollowed := true, recurses := true, named := ["unicode/utf8.first", "unicode/utf8.acceptRanges"], apart := false, laid := [("unicode/utf8.acceptRanges", laid_unicode_utf8_acceptRanges), ("unicode/utf8.first", laid_unicode_utf8_first)], narrowed := true }
def FnCommentConsumedExactlyUptoSaid : Prop := fnCommentConsumedExactlyUptoRow.holds Tryd.pinned (OpenSpec.upto fnCommentConsumedExactlySpec)

end Rows
end Go.Proofs.YtlbpplkanogkgaaDoor
