/-
  No cell of these rows narrows 'for every input' (looked for: loops, veiled, ifaces, maps, wideKeys, modest, calm, conditions, laid).
  DERIVED. THE GIVEN ROWS OF THIS SEAT. 5 by the template 'for every input the law returns true; each argument reads behind the call as it read before'; 0 by the template 'total and deterministic' (their statements: YtbicjmaogbaldabTotals.lean).
  GIVEN WITH THE SEED: the statements are not yours to turn. If you find one false, say at which input.
  Laid BY PROGRAM, IN A SANDBOX (cutbox-rows.mjs): the forced cells as the released guide's own fill.sh prints them over the translation 3e62cfad0a4a6110… (all of the seat's roots in one cut). By AI agents, Wed Nov 11 2026. No macro, syntax, notation, axiom, sorry.
-/
import Derived.Test.YtbicjmaogbaldabChecked
import GoSem.Claim
import GoSem.ClaimJoined
import GoSem.ClaimMapViews
import Derived.JoinedTies
import Derived.KernelRfl
namespace Go.Proofs.Ytbicjmaogbaldab
/- THE CELL 'sum', in the pinned program and in every row, IS THE sha256 OF THE DUMP (.gsa) THAT YtbicjmaogbaldabProg.lean LOADS. Nothing in Lean hashes anything: it is a label: what it is worth is what the hold of that sum in a sandbox is worth. -/
noncomputable def Try.pinned : Pinned := { name := "ytbicjmaogbaldab", sum := "3e62cfad0a4a61102b998e05262ab6f94af9797a00ed39e4ba4fefeaa033c87c", checked := Try.checked }
namespace Rows
def none {H : Type} : Left H := { results := [], args := [] }

/-- 'n011_287.FnStableSymbolCountLessIsStrictTotalOrder': WHATEVER THE INPUT: true; the input reads as it did. -/
def fnStableSymbolCountLessIsStrictTotalOrderSpec : ChangeSpec := { name := "fnStableSymbolCountLessIsStrictTotalOrder", fn := fun _ => fun
  | [d1, d2, d3, d4] => { results := [.lit (.bool true)], args := [d1, d2, d3, d4] }
  | _ => none }
def fnStableSymbolCountLessIsStrictTotalOrderRow : OpenClaim := { program := "ytbicjmaogbaldab", sum := "3e62cfad0a4a61102b998e05262ab6f94af9797a00ed39e4ba4fefeaa033c87c", func := "github.com/evanw/esbuild/n011_287.FnStableSymbolCountLessIsStrictTotalOrder", spec := "fnStableSymbolCountLessIsStrictTotalOrder", apart := false }
def FnStableSymbolCountLessIsStrictTotalOrderSaid : Prop := fnStableSymbolCountLessIsStrictTotalOrderRow.holds Try.pinned (OpenSpec.ofChange fnStableSymbolCountLessIsStrictTotalOrderSpec)

/-- ITS FALSE NEIGHBOUR: 'it returns false'. Refute it at one input. -/
def fnStableSymbolCountLessIsStrictTotalOrderWrong : ChangeSpec := { name := "fnStableSymbolCountLessIsStrictTotalOrder", fn := fun _ => fun
  | [d1, d2, d3, d4] => { results := [.lit (.bool false)], args := [d1, d2, d3, d4] }
  | _ => none }
def FnStableSymbolCountLessIsStrictTotalOrderWrongFalsely : Prop := fnStableSymbolCountLessIsStrictTotalOrderRow.holds Try.pinned (OpenSpec.ofChange fnStableSymbolCountLessIsStrictTotalOrderWrong)

/-- 'n011_79.FnStableRefArraySwapExact': WHATEVER THE INPUT: true; the input reads as it did. -/
def fnStableRefArraySwapExactSpec : ChangeSpec := { name := "fnStableRefArraySwapExact", fn := fun _ => fun
  | [d1, d2, d3, d4, d5] => { results := [.lit (.bool true)], args := [d1, d2, d3, d4, d5] }
  | _ => none }
def fnStableRefArraySwapExactRow : OpenClaim := { program := "ytbicjmaogbaldab", sum := "3e62cfad0a4a61102b998e05262ab6f94af9797a00ed39e4ba4fefeaa033c87c", func := "github.com/evanw/esbuild/n011_79.FnStableRefArraySwapExact", spec := "fnStableRefArraySwapExact", apart := false }
def FnStableRefArraySwapExactSaid : Prop := fnStableRefArraySwapExactRow.holds Try.pinned (OpenSpec.ofChange fnStableRefArraySwapExactSpec)

/-- ITS FALSE NEIGHBOUR: 'it returns false'. Refute it at one input. -/
def fnStableRefArraySwapExactWrong : ChangeSpec := { name := "fnStableRefArraySwapExact", fn := fun _ => fun
  | [d1, d2, d3, d4, d5] => { results := [.lit (.bool false)], args := [d1, d2, d3, d4, d5] }
  | _ => none }
def FnStableRefArraySwapExactWrongFalsely : Prop := fnStableRefArraySwapExactRow.holds Try.pinned (OpenSpec.ofChange fnStableRefArraySwapExactWrong)

/-- 'n011_61.FnCCIALenKeptBySwaps': WHATEVER THE INPUT: true; the input reads as it did. -/
def fnCCIALenKeptBySwapsSpec : ChangeSpec := { name := "fnCCIALenKeptBySwaps", fn := fun _ => fun
  | [d1, d2, d3] => { results := [.lit (.bool true)], args := [d1, d2, d3] }
  | _ => none }
def fnCCIALenKeptBySwapsRow : OpenClaim := { program := "ytbicjmaogbaldab", sum := "3e62cfad0a4a61102b998e05262ab6f94af9797a00ed39e4ba4fefeaa033c87c", func := "github.com/evanw/esbuild/n011_61.FnCCIALenKeptBySwaps", spec := "fnCCIALenKeptBySwaps", apart := false }
def FnCCIALenKeptBySwapsSaid : Prop := fnCCIALenKeptBySwapsRow.holds Try.pinned (OpenSpec.ofChange fnCCIALenKeptBySwapsSpec)

/-- ITS FALSE NEIGHBOUR: 'it returns false'. Refute it at one input. -/
def fnCCIALenKeptBySwapsWrong : ChangeSpec := { name := "fnCCIALenKeptBySwaps", fn := fun _ => fun
  | [d1, d2, d3] => { results := [.lit (.bool false)], args := [d1, d2, d3] }
  | _ => none }
def FnCCIALenKeptBySwapsWrongFalsely : Prop := fnCCIALenKeptBySwapsRow.holds Try.pinned (OpenSpec.ofChange fnCCIALenKeptBySwapsWrong)

/-- 'n011_211.FnAppendOrExtendScriptRoundTrip': WHATEVER THE INPUT: true; the input reads as it did. -/
def fnAppendOrExtendScriptRoundTripSpec : ChangeSpec := { name := "fnAppendOrExtendScriptRoundTrip", fn := fun _ => fun
  | [d1, d2] => { results := [.lit (.bool true)], args := [d1, d2] }
  | _ => none }
def fnAppendOrExtendScriptRoundTripRow : OpenClaim := { program := "ytbicjmaogbaldab", sum := "3e62cfad0a4a61102b998e05262ab6f94af9797a00ed39e4ba4fefeaa033c87c", func := "github.com/evanw/esbuild/n011_211.FnAppendOrExtendScriptRoundTrip", spec := "fnAppendOrExtendScriptRoundTrip", apart := false }
def FnAppendOrExtendScriptRoundTripSaid : Prop := fnAppendOrExtendScriptRoundTripRow.holds Try.pinned (OpenSpec.ofChange fnAppendOrExtendScriptRoundTripSpec)

/-- ITS FALSE NEIGHBOUR: 'it returns false'. Refute it at one input. -/
def fnAppendOrExtendScriptRoundTripWrong : ChangeSpec := { name := "fnAppendOrExtendScriptRoundTrip", fn := fun _ => fun
  | [d1, d2] => { results := [.lit (.bool false)], args := [d1, d2] }
  | _ => none }
def FnAppendOrExtendScriptRoundTripWrongFalsely : Prop := fnAppendOrExtendScriptRoundTripRow.holds Try.pinned (OpenSpec.ofChange fnAppendOrExtendScriptRoundTripWrong)

/-- 'n011_29.FnSlotSwapInvolutionSymmetric': WHATEVER THE INPUT: true; the input reads as it did. -/
def fnSlotSwapInvolutionSymmetricSpec : ChangeSpec := { name := "fnSlotSwapInvolutionSymmetric", fn := fun _ => fun
  | [d1, d2, d3, d4] => { results := [.lit (.bool true)], args := [d1, d2, d3, d4] }
  | _ => none }
def fnSlotSwapInvolutionSymmetricRow : OpenClaim := { program := "ytbicjmaogbaldab", sum := "3e62cfad0a4a61102b998e05262ab6f94af9797a00ed39e4ba4fefeaa033c87c", func := "github.com/evanw/esbuild/n011_29.FnSlotSwapInvolutionSymmetric", spec := "fnSlotSwapInvolutionSymmetric", apart := false }
def FnSlotSwapInvolutionSymmetricSaid : Prop := fnSlotSwapInvolutionSymmetricRow.holds Try.pinned (OpenSpec.ofChange fnSlotSwapInvolutionSymmetricSpec)

/-- ITS FALSE NEIGHBOUR: 'it returns false'. Refute it at one input. -/
def fnSlotSwapInvolutionSymmetricWrong : ChangeSpec := { name := "fnSlotSwapInvolutionSymmetric", fn := fun _ => fun
  | [d1, d2, d3, d4] => { results := [.lit (.bool false)], args := [d1, d2, d3, d4] }
  | _ => none }
def FnSlotSwapInvolutionSymmetricWrongFalsely : Prop := fnSlotSwapInvolutionSymmetricRow.holds Try.pinned (OpenSpec.ofChange fnSlotSwapInvolutionSymmetricWrong)

/- THE SECOND FORM. 'bulk': how many values and letters a reading holds, each counted each time it is reached (what is shared counts as often as it is met; a slice's spare places count too). A statement '..UptoSaid' is the law's where the arguments, and the package variables that the reading takes, are together of bulk at most 1048576: NARROWER than '..Said'. Prove '..Said' where nothing that the law and all that it calls make is longer than what came in: it says more and counts as full. Else prove '..UptoSaid'. A law counts once. -/
mutual
def uptoBulk {H : Type} : DataW H → Nat
  | .lit (.string bytes) => bytes.length + 1
  | .lit _ => 1
  | .nil => 1
  | .ptr d => uptoBulk d + 1
  | .slice elems spare => uptoBulkAll elems + uptoBulkAll spare + 1
  | .agg parts => uptoBulkAll parts + 1
  | .iface _ d => uptoBulk d + 1
  | .map entries => uptoBulkEntries entries + 1
  | .held _ => 1
def uptoBulkAll {H : Type} : List (DataW H) → Nat
  | [] => 0
  | d :: r => uptoBulk d + uptoBulkAll r
def uptoBulkEntries {H : Type} : List (Lit × DataW H) → Nat
  | [] => 0
  | x :: r => uptoBulkEntry x + uptoBulkEntries r
def uptoBulkEntry {H : Type} : Lit × DataW H → Nat
  | (.string bytes, d) => bytes.length + uptoBulk d + 1
  | (_, d) => uptoBulk d + 1
 end
def uptoSmall : (H : Type) → List (DataW H) → Bool := fun _ ds => decide (uptoBulkAll ds ≤ 1048576)
def OpenSpec.upto (s : _root_.Go.ChangeSpec) : _root_.Go.OpenSpec := { _root_.Go.OpenSpec.ofChange s with cond := some uptoSmall }

/-- 'n011_287.FnStableSymbolCountLessIsStrictTotalOrder', WHERE WHAT IT READS IS OF BULK AT MOST 1048576: true; the input reads as it did. -/
def fnStableSymbolCountLessIsStrictTotalOrderUptoRow : OpenClaim := { program := "ytbicjmaogbaldab", sum := "3e62cfad0a4a61102b998e05262ab6f94af9797a00ed39e4ba4fefeaa033c87c", func := "github.com/evanw/esbuild/n011_287.FnStableSymbolCountLessIsStrictTotalOrder", spec := "fnStableSymbolCountLessIsStrictTotalOrder", apart := false, narrowed := true }
def FnStableSymbolCountLessIsStrictTotalOrderUptoSaid : Prop := fnStableSymbolCountLessIsStrictTotalOrderUptoRow.holds Try.pinned (OpenSpec.upto fnStableSymbolCountLessIsStrictTotalOrderSpec)

/-- 'n011_79.FnStableRefArraySwapExact', WHERE WHAT IT READS IS OF BULK AT MOST 1048576: true; the input reads as it did. -/
def fnStableRefArraySwapExactUptoRow : OpenClaim := { program := "ytbicjmaogbaldab", sum := "3e62cfad0a4a61102b998e05262ab6f94af9797a00ed39e4ba4fefeaa033c87c", func := "github.com/evanw/esbuild/n011_79.FnStableRefArraySwapExact", spec := "fnStableRefArraySwapExact", apart := false, narrowed := true }
def FnStableRefArraySwapExactUptoSaid : Prop := fnStableRefArraySwapExactUptoRow.holds Try.pinned (OpenSpec.upto fnStableRefArraySwapExactSpec)

/-- 'n011_61.FnCCIALenKeptBySwaps', WHERE WHAT IT READS IS OF BULK AT MOST 1048576: true; the input reads as it did. -/
def fnCCIALenKeptBySwapsUptoRow : OpenClaim := { program := "ytbicjmaogbaldab", sum := "3e62cfad0a4a61102b998e05262ab6f94af9797a00ed39e4ba4fefeaa033c87c", func := "github.com/evanw/esbuild/n011_61.FnCCIALenKeptBySwaps", spec := "fnCCIALenKeptBySwaps", apart := false, narrowed := true }
def FnCCIALenKeptBySwapsUptoSaid : Prop := fnCCIALenKeptBySwapsUptoRow.holds Try.pinned (OpenSpec.upto fnCCIALenKeptBySwapsSpec)

/-- 'n011_211.FnAppendOrExtendScriptRoundTrip', WHERE WHAT IT READS IS OF BULK AT MOST 1048576: true; the input reads as it did. -/
def fnAppendOrExtendScriptRoundTripUptoRow : OpenClaim := { program := "ytbicjmaogbaldab", sum := "3e62cfad0a4a61102b998e05262ab6f94af9797a00ed39e4ba4fefeaa033c87c", func := "github.com/evanw/esbuild/n011_211.FnAppendOrExtendScriptRoundTrip", spec := "fnAppendOrExtendScriptRoundTrip", apart := false, narrowed := true }
def FnAppendOrExtendScriptRoundTripUptoSaid : Prop := fnAppendOrExtendScriptRoundTripUptoRow.holds Try.pinned (OpenSpec.upto fnAppendOrExtendScriptRoundTripSpec)

/-- 'n011_29.FnSlotSwapInvolutionSymmetric', WHERE WHAT IT READS IS OF BULK AT MOST 1048576: true; the input reads as it did. -/
def fnSlotSwapInvolutionSymmetricUptoRow : OpenClaim := { program := "ytbicjmaogbaldab", sum := "3e62cfad0a4a61102b998e05262ab6f94af9797a00ed39e4ba4fefeaa033c87c", func := "github.com/evanw/esbuild/n011_29.FnSlotSwapInvolutionSymmetric", spec := "fnSlotSwapInvolutionSymmetric", apart := false, narrowed := true }
def FnSlotSwapInvolutionSymmetricUptoSaid : Prop := fnSlotSwapInvolutionSymmetricUptoRow.holds Try.pinned (OpenSpec.upto fnSlotSwapInvolutionSymmetricSpec)

end Rows
end Go.Proofs.Ytbicjmaogbaldab
