/-
  No cell of these rows narrows 'for every input' (looked for: loops, veiled, ifaces, maps, wideKeys, modest, calm, conditions, laid).
  DERIVED. THE GIVEN ROWS OF THIS SEAT. 5 by the template 'for every input the law returns true; each argument reads behind the call as it read before'; 0 by the template 'total and deterministic' (their statements: YtbicjmaogbaldaaTotals.lean).
  GIVEN WITH THE SEED: the statements are not yours to turn. If you find one false, say at which input.
  Laid BY PROGRAM, IN A SANDBOX (cutbox-rows.mjs): the forced cells as the released guide's own fill.sh prints them over the translation dde19f1a1dc103a3… (all of the seat's roots in one cut). By AI agents, Wed Nov 11 2026. No macro, syntax, notation, axiom, sorry.
-/
import Derived.Test.YtbicjmaogbaldaaChecked
import GoSem.Claim
import GoSem.ClaimJoined
import GoSem.ClaimMapViews
import Derived.JoinedTies
import Derived.KernelRfl
namespace Go.Proofs.Ytbicjmaogbaldaa
/- THE CELL 'sum', in the pinned program and in every row, IS THE sha256 OF THE DUMP (.gsa) THAT YtbicjmaogbaldaaProg.lean LOADS. Nothing in Lean hashes anything: it is a label: what it is worth is what the hold of that sum in a sandbox is worth. -/
noncomputable def Try.pinned : Pinned := { name := "ytbicjmaogbaldaa", sum := "dde19f1a1dc103a3570a6f8d3242664a9211436b295b0edfe0e28c57a81d9943", checked := Try.checked }
namespace Rows
def none {H : Type} : Left H := { results := [], args := [] }

/-- 'n011_23.FnAddIsMonoid': WHATEVER THE INPUT: true; the input reads as it did. -/
def fnAddIsMonoidSpec : ChangeSpec := { name := "fnAddIsMonoid", fn := fun _ => fun
  | [d1, d2, d3, d4, d5, d6] => { results := [.lit (.bool true)], args := [d1, d2, d3, d4, d5, d6] }
  | _ => none }
def fnAddIsMonoidRow : OpenClaim := { program := "ytbicjmaogbaldaa", sum := "dde19f1a1dc103a3570a6f8d3242664a9211436b295b0edfe0e28c57a81d9943", func := "github.com/evanw/esbuild/n011_23.FnAddIsMonoid", spec := "fnAddIsMonoid", plainKeys := false, apart := false }
def FnAddIsMonoidSaid : Prop := fnAddIsMonoidRow.holds Try.pinned (OpenSpec.ofChange fnAddIsMonoidSpec)

/-- ITS FALSE NEIGHBOUR: 'it returns false'. Refute it at one input. -/
def fnAddIsMonoidWrong : ChangeSpec := { name := "fnAddIsMonoid", fn := fun _ => fun
  | [d1, d2, d3, d4, d5, d6] => { results := [.lit (.bool false)], args := [d1, d2, d3, d4, d5, d6] }
  | _ => none }
def FnAddIsMonoidWrongFalsely : Prop := fnAddIsMonoidRow.holds Try.pinned (OpenSpec.ofChange fnAddIsMonoidWrong)

/-- 'n011_213.FnRawIdentifierStartInjective': WHATEVER THE INPUT: true; the input reads as it did. -/
def fnRawIdentifierStartInjectiveSpec : ChangeSpec := { name := "fnRawIdentifierStartInjective", fn := fun _ => fun
  | [d1, d2, d3, d4, d5] => { results := [.lit (.bool true)], args := [d1, d2, d3, d4, d5] }
  | _ => none }
def fnRawIdentifierStartInjectiveRow : OpenClaim := { program := "ytbicjmaogbaldaa", sum := "dde19f1a1dc103a3570a6f8d3242664a9211436b295b0edfe0e28c57a81d9943", func := "github.com/evanw/esbuild/n011_213.FnRawIdentifierStartInjective", spec := "fnRawIdentifierStartInjective", plainKeys := false, apart := false }
def FnRawIdentifierStartInjectiveSaid : Prop := fnRawIdentifierStartInjectiveRow.holds Try.pinned (OpenSpec.ofChange fnRawIdentifierStartInjectiveSpec)

/-- ITS FALSE NEIGHBOUR: 'it returns false'. Refute it at one input. -/
def fnRawIdentifierStartInjectiveWrong : ChangeSpec := { name := "fnRawIdentifierStartInjective", fn := fun _ => fun
  | [d1, d2, d3, d4, d5] => { results := [.lit (.bool false)], args := [d1, d2, d3, d4, d5] }
  | _ => none }
def FnRawIdentifierStartInjectiveWrongFalsely : Prop := fnRawIdentifierStartInjectiveRow.holds Try.pinned (OpenSpec.ofChange fnRawIdentifierStartInjectiveWrong)

/-- 'n011_213.FnRangeAdditive': WHATEVER THE INPUT: true; the input reads as it did. -/
def fnRangeAdditiveSpec : ChangeSpec := { name := "fnRangeAdditive", fn := fun _ => fun
  | [d1, d2, d3, d4] => { results := [.lit (.bool true)], args := [d1, d2, d3, d4] }
  | _ => none }
def fnRangeAdditiveRow : OpenClaim := { program := "ytbicjmaogbaldaa", sum := "dde19f1a1dc103a3570a6f8d3242664a9211436b295b0edfe0e28c57a81d9943", func := "github.com/evanw/esbuild/n011_213.FnRangeAdditive", spec := "fnRangeAdditive", plainKeys := false, apart := false }
def FnRangeAdditiveSaid : Prop := fnRangeAdditiveRow.holds Try.pinned (OpenSpec.ofChange fnRangeAdditiveSpec)

/-- ITS FALSE NEIGHBOUR: 'it returns false'. Refute it at one input. -/
def fnRangeAdditiveWrong : ChangeSpec := { name := "fnRangeAdditive", fn := fun _ => fun
  | [d1, d2, d3, d4] => { results := [.lit (.bool false)], args := [d1, d2, d3, d4] }
  | _ => none }
def FnRangeAdditiveWrongFalsely : Prop := fnRangeAdditiveRow.holds Try.pinned (OpenSpec.ofChange fnRangeAdditiveWrong)

/-- 'n011_4.FnBestQuoteMatchesByteCountModel': WHATEVER THE INPUT: true; the input reads as it did. -/
def fnBestQuoteMatchesByteCountModelSpec : ChangeSpec := { name := "fnBestQuoteMatchesByteCountModel", fn := fun _ => fun
  | [d1, d2] => { results := [.lit (.bool true)], args := [d1, d2] }
  | _ => none }
def fnBestQuoteMatchesByteCountModelRow : OpenClaim := { program := "ytbicjmaogbaldaa", sum := "dde19f1a1dc103a3570a6f8d3242664a9211436b295b0edfe0e28c57a81d9943", func := "github.com/evanw/esbuild/n011_4.FnBestQuoteMatchesByteCountModel", spec := "fnBestQuoteMatchesByteCountModel", plainKeys := false, apart := false }
def FnBestQuoteMatchesByteCountModelSaid : Prop := fnBestQuoteMatchesByteCountModelRow.holds Try.pinned (OpenSpec.ofChange fnBestQuoteMatchesByteCountModelSpec)

/-- ITS FALSE NEIGHBOUR: 'it returns false'. Refute it at one input. -/
def fnBestQuoteMatchesByteCountModelWrong : ChangeSpec := { name := "fnBestQuoteMatchesByteCountModel", fn := fun _ => fun
  | [d1, d2] => { results := [.lit (.bool false)], args := [d1, d2] }
  | _ => none }
def FnBestQuoteMatchesByteCountModelWrongFalsely : Prop := fnBestQuoteMatchesByteCountModelRow.holds Try.pinned (OpenSpec.ofChange fnBestQuoteMatchesByteCountModelWrong)

/-- 'n011_104.FnCurrentLineLengthFromFreshState': WHATEVER THE INPUT: true; the input reads as it did. -/
def fnCurrentLineLengthFromFreshStateSpec : ChangeSpec := { name := "fnCurrentLineLengthFromFreshState", fn := fun _ => fun
  | [d] => { results := [.lit (.bool true)], args := [d] }
  | _ => none }
def fnCurrentLineLengthFromFreshStateRow : OpenClaim := { program := "ytbicjmaogbaldaa", sum := "dde19f1a1dc103a3570a6f8d3242664a9211436b295b0edfe0e28c57a81d9943", func := "github.com/evanw/esbuild/n011_104.FnCurrentLineLengthFromFreshState", spec := "fnCurrentLineLengthFromFreshState", plainKeys := false, apart := false }
def FnCurrentLineLengthFromFreshStateSaid : Prop := fnCurrentLineLengthFromFreshStateRow.holds Try.pinned (OpenSpec.ofChange fnCurrentLineLengthFromFreshStateSpec)

/-- ITS FALSE NEIGHBOUR: 'it returns false'. Refute it at one input. -/
def fnCurrentLineLengthFromFreshStateWrong : ChangeSpec := { name := "fnCurrentLineLengthFromFreshState", fn := fun _ => fun
  | [d] => { results := [.lit (.bool false)], args := [d] }
  | _ => none }
def FnCurrentLineLengthFromFreshStateWrongFalsely : Prop := fnCurrentLineLengthFromFreshStateRow.holds Try.pinned (OpenSpec.ofChange fnCurrentLineLengthFromFreshStateWrong)

/- THE SECOND FORM. 'bulk': how many values and letters a reading holds, each counted each time it is reached (what is shared counts as often as it is met; a slice's spare places count too). A statement '..UptoSaid' is the law's where the arguments, and the package variables that the reading takes, are together of bulk at most 1048576: NARROWER than '..Said'. Prove '..Said' where nothing that the law and all that it calls make is longer than what came in: it says more and counts as full. Else prove '..UptoSaid'. A law counts once. -/
mutual
def uptoBulk {H : Type} : DataW H → Nat
  | .lit (.string bytes) => bytes.length + 1
  | .lit _ => 1
  | .nil => 1
  | .ptr d => uptoBulk d + 1
  | .slice elems spare => uptoBulkAll elems + uptoBulkAll spare + 1
  | .agg parts => uptoBulkAll parts + 1
  | .iface _ d => uptoBulk d + 1
  | .map entries => uptoBulkEntries entries + 1
  | .held _ => 1
def uptoBulkAll {H : Type} : List (DataW H) → Nat
  | [] => 0
  | d :: r => uptoBulk d + uptoBulkAll r
def uptoBulkEntries {H : Type} : List (Lit × DataW H) → Nat
  | [] => 0
  | x :: r => uptoBulkEntry x + uptoBulkEntries r
def uptoBulkEntry {H : Type} : Lit × DataW H → Nat
  | (.string bytes, d) => bytes.length + uptoBulk d + 1
  | (_, d) => uptoBulk d + 1
 end
def uptoSmall : (H : Type) → List (DataW H) → Bool := fun _ ds => decide (uptoBulkAll ds ≤ 1048576)
def OpenSpec.upto (s : _root_.Go.ChangeSpec) : _root_.Go.OpenSpec := { _root_.Go.OpenSpec.ofChange s with cond := some uptoSmall }

/-- 'n011_23.FnAddIsMonoid', WHERE WHAT IT READS IS OF BULK AT MOST 1048576: true; the input reads as it did. -/
def fnAddIsMonoidUptoRow : OpenClaim := { program := "ytbicjmaogbaldaa", sum := "dde19f1a1dc103a3570a6f8d3242664a9211436b295b0edfe0e28c57a81d9943", func := "github.com/evanw/esbuild/n011_23.FnAddIsMonoid", spec := "fnAddIsMonoid", plainKeys := false, apart := false, narrowed := true }
def FnAddIsMonoidUptoSaid : Prop := fnAddIsMonoidUptoRow.holds Try.pinned (OpenSpec.upto fnAddIsMonoidSpec)

/-- 'n011_213.FnRawIdentifierStartInjective', WHERE WHAT IT READS IS OF BULK AT MOST 1048576: true; the input reads as it did. -/
def fnRawIdentifierStartInjectiveUptoRow : OpenClaim := { program := "ytbicjmaogbaldaa", sum := "dde19f1a1dc103a3570a6f8d3242664a9211436b295b0edfe0e28c57a81d9943", func := "github.com/evanw/esbuild/n011_213.FnRawIdentifierStartInjective", spec := "fnRawIdentifierStartInjective", plainKeys := false, apart := false, narrowed := true }
def FnRawIdentifierStartInjectiveUptoSaid : Prop := fnRawIdentifierStartInjectiveUptoRow.holds Try.pinned (OpenSpec.upto fnRawIdentifierStartInjectiveSpec)

/-- 'n011_213.FnRangeAdditive', WHERE WHAT IT READS IS OF BULK AT MOST 1048576: true; the input reads as it did. -/
def fnRangeAdditiveUptoRow : OpenClaim := { program := "ytbicjmaogbaldaa", sum := "dde19f1a1dc103a3570a6f8d3242664a9211436b295b0edfe0e28c57a81d9943", func := "github.com/evanw/esbuild/n011_213.FnRangeAdditive", spec := "fnRangeAdditive", plainKeys := false, apart := false, narrowed := true }
def FnRangeAdditiveUptoSaid : Prop := fnRangeAdditiveUptoRow.holds Try.pinned (OpenSpec.upto fnRangeAdditiveSpec)

/-- 'n011_4.FnBestQuoteMatchesByteCountModel', WHERE WHAT IT READS IS OF BULK AT MOST 1048576: true; the input reads as it did. -/
def fnBestQuoteMatchesByteCountModelUptoRow : OpenClaim := { program := "ytbicjmaogbaldaa", sum := "dde19f1a1dc103a3570a6f8d3242664a9211436b295b0edfe0e28c57a81d9943", func := "github.com/evanw/esbuild/n011_4.FnBestQuoteMatchesByteCountModel", spec := "fnBestQuoteMatchesByteCountModel", plainKeys := false, apart := false, narrowed := true }
def FnBestQuoteMatchesByteCountModelUptoSaid : Prop := fnBestQuoteMatchesByteCountModelUptoRow.holds Try.pinned (OpenSpec.upto fnBestQuoteMatchesByteCountModelSpec)

/-- 'n011_104.FnCurrentLineLengthFromFreshState', WHERE WHAT IT READS IS OF BULK AT MOST 1048576: true; the input reads as it did. -/
def fnCurrentLineLengthFromFreshStateUptoRow : OpenClaim := { program := "ytbicjmaogbaldaa", sum := "dde19f1a1dc103a3570a6f8d3242664a9211436b295b0edfe0e28c57a81d9943", func := "github.com/evanw/esbuild/n011_104.FnCurrentLineLengthFromFreshState", spec := "fnCurrentLineLengthFromFreshState", plainKeys := false, apart := false, narrowed := true }
def FnCurrentLineLengthFromFreshStateUptoSaid : Prop := fnCurrentLineLengthFromFreshStateUptoRow.holds Try.pinned (OpenSpec.upto fnCurrentLineLengthFromFreshStateSpec)

end Rows
end Go.Proofs.Ytbicjmaogbaldaa
