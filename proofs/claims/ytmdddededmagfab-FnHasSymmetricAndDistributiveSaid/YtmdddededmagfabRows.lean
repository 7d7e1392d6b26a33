/-
  No cell of these rows narrows 'for every input' (looked for: loops, veiled, ifaces, maps, wideKeys, modest, calm, conditions, laid).
  DERIVED. THE GIVEN ROWS OF THIS SEAT. 3 by the template 'for every input the law returns true; each argument reads behind the call as it read before'; 0 by the template 'total and deterministic' (their statements: YtmdddededmagfabTotals.lean).
  GIVEN WITH THE SEED: the statements are not yours to turn. If you find one false, say at which input.
  Laid BY PROGRAM, IN A SANDBOX (cutbox-rows.mjs): the forced cells as the released guide's own fill.sh prints them over the translation 05866ecaf0540518… (all of the seat's roots in one cut). By AI agents, Wed Nov 11 2026. No macro, syntax, notation, axiom, sorry.
-/
import Derived.Test.YtmdddededmagfabChecked
import GoSem.Claim
import GoSem.ClaimJoined
import GoSem.ClaimMapViews
import Derived.JoinedTies
import Derived.KernelRfl
namespace Go.Proofs.Ytmdddededmagfab
/- THE CELL 'sum', in the pinned program and in every row, IS THE sha256 OF THE DUMP (.gsa) THAT YtmdddededmagfabProg.lean LOADS. Nothing in Lean hashes anything: it is a label: what it is worth is what the hold of that sum in a sandbox is worth. -/
noncomputable def Try.pinned : Pinned := { name := "ytmdddededmagfab", sum := "05866ecaf05405184e7b421d48a7727f137ab8cc0df9e1dc9e5d329b264ecbcf", checked := Try.checked }
namespace Rows
def none {H : Type} : Left H := { results := [], args := [] }

/-- 'n011_151.FnIsASCIIOnlySplitsOverConcatenation': WHATEVER THE INPUT: true; the input reads as it did. -/
def fnIsASCIIOnlySplitsOverConcatenationSpec : ChangeSpec := { name := "fnIsASCIIOnlySplitsOverConcatenation", fn := fun _ => fun
  | [d1, d2] => { results := [.lit (.bool true)], args := [d1, d2] }
  | _ => none }
def fnIsASCIIOnlySplitsOverConcatenationRow : OpenClaim := { program := "ytmdddededmagfab", sum := "05866ecaf05405184e7b421d48a7727f137ab8cc0df9e1dc9e5d329b264ecbcf", func := "github.com/evanw/esbuild/n011_151.FnIsASCIIOnlySplitsOverConcatenation", spec := "fnIsASCIIOnlySplitsOverConcatenation", apart := false }
def FnIsASCIIOnlySplitsOverConcatenationSaid : Prop := fnIsASCIIOnlySplitsOverConcatenationRow.holds Try.pinned (OpenSpec.ofChange fnIsASCIIOnlySplitsOverConcatenationSpec)

/-- ITS FALSE NEIGHBOUR: 'it returns false'. Refute it at one input. -/
def fnIsASCIIOnlySplitsOverConcatenationWrong : ChangeSpec := { name := "fnIsASCIIOnlySplitsOverConcatenation", fn := fun _ => fun
  | [d1, d2] => { results := [.lit (.bool false)], args := [d1, d2] }
  | _ => none }
def FnIsASCIIOnlySplitsOverConcatenationWrongFalsely : Prop := fnIsASCIIOnlySplitsOverConcatenationRow.holds Try.pinned (OpenSpec.ofChange fnIsASCIIOnlySplitsOverConcatenationWrong)

/-- 'n011_50.FnIsNonPrintableAsciiPartition': WHATEVER THE INPUT: true; the input reads as it did. -/
def fnIsNonPrintableAsciiPartitionSpec : ChangeSpec := { name := "fnIsNonPrintableAsciiPartition", fn := fun _ => fun
  | [d] => { results := [.lit (.bool true)], args := [d] }
  | _ => none }
def fnIsNonPrintableAsciiPartitionRow : OpenClaim := { program := "ytmdddededmagfab", sum := "05866ecaf05405184e7b421d48a7727f137ab8cc0df9e1dc9e5d329b264ecbcf", func := "github.com/evanw/esbuild/n011_50.FnIsNonPrintableAsciiPartition", spec := "fnIsNonPrintableAsciiPartition", apart := false }
def FnIsNonPrintableAsciiPartitionSaid : Prop := fnIsNonPrintableAsciiPartitionRow.holds Try.pinned (OpenSpec.ofChange fnIsNonPrintableAsciiPartitionSpec)

/-- ITS FALSE NEIGHBOUR: 'it returns false'. Refute it at one input. -/
def fnIsNonPrintableAsciiPartitionWrong : ChangeSpec := { name := "fnIsNonPrintableAsciiPartition", fn := fun _ => fun
  | [d] => { results := [.lit (.bool false)], args := [d] }
  | _ => none }
def FnIsNonPrintableAsciiPartitionWrongFalsely : Prop := fnIsNonPrintableAsciiPartitionRow.holds Try.pinned (OpenSpec.ofChange fnIsNonPrintableAsciiPartitionWrong)

/-- 'n011_146.FnHasSymmetricAndDistributive': WHATEVER THE INPUT: true; the input reads as it did. -/
def fnHasSymmetricAndDistributiveSpec : ChangeSpec := { name := "fnHasSymmetricAndDistributive", fn := fun _ => fun
  | [d1, d2, d3] => { results := [.lit (.bool true)], args := [d1, d2, d3] }
  | _ => none }
def fnHasSymmetricAndDistributiveRow : OpenClaim := { program := "ytmdddededmagfab", sum := "05866ecaf05405184e7b421d48a7727f137ab8cc0df9e1dc9e5d329b264ecbcf", func := "github.com/evanw/esbuild/n011_146.FnHasSymmetricAndDistributive", spec := "fnHasSymmetricAndDistributive", apart := false }
def FnHasSymmetricAndDistributiveSaid : Prop := fnHasSymmetricAndDistributiveRow.holds Try.pinned (OpenSpec.ofChange fnHasSymmetricAndDistributiveSpec)

/-- ITS FALSE NEIGHBOUR: 'it returns false'. Refute it at one input. -/
def fnHasSymmetricAndDistributiveWrong : ChangeSpec := { name := "fnHasSymmetricAndDistributive", fn := fun _ => fun
  | [d1, d2, d3] => { results := [.lit (.bool false)], args := [d1, d2, d3] }
  | _ => none }
def FnHasSymmetricAndDistributiveWrongFalsely : Prop := fnHasSymmetricAndDistributiveRow.holds Try.pinned (OpenSpec.ofChange fnHasSymmetricAndDistributiveWrong)

/- THE SECOND FORM. 'bulk': how many values and letters a reading holds, each counted each time it is reached (what is shared counts as often as it is met; a slice's spare places count too). A statement '..UptoSaid' is the law's where the arguments, and the package variables that the reading takes, are together of bulk at most 1048576: NARROWER than '..Said'. Prove '..Said' where nothing that the law and all that it calls make is longer than what came in: it says more and counts as full. Else prove '..UptoSaid'. A law counts once. -/
mutual
def uptoBulk {H : Type} : DataW H → Nat
  | .lit (.string bytes) => bytes.length + 1
  | .lit _ => 1
  | .nil => 1
  | .ptr d => uptoBulk d + 1
  | .slice elems spare => uptoBulkAll elems + uptoBulkAll spare + 1
  | .agg parts => uptoBulkAll parts + 1
  | .iface _ d => uptoBulk d + 1
  | .map entries => uptoBulkEntries entries + 1
  | .held _ => 1
def uptoBulkAll {H : Type} : List (DataW H) → Nat
  | [] => 0
  | d :: r => uptoBulk d + uptoBulkAll r
def uptoBulkEntries {H : Type} : List (Lit × DataW H) → Nat
  | [] => 0
  | x :: r => uptoBulkEntry x + uptoBulkEntries r
def uptoBulkEntry {H : Type} : Lit × DataW H → Nat
  | (.string bytes, d) => bytes.length + uptoBulk d + 1
  | (_, d) => uptoBulk d + 1
 end
def uptoSmall : (H : Type) → List (DataW H) → Bool := fun _ ds => decide (uptoBulkAll ds ≤ 1048576)
def OpenSpec.upto (s : _root_.Go.ChangeSpec) : _root_.Go.OpenSpec := { _root_.Go.OpenSpec.ofChange s with cond := some uptoSmall }

/-- 'n011_151.FnIsASCIIOnlySplitsOverConcatenation', WHERE WHAT IT READS IS OF BULK AT MOST 1048576: true; the input reads as it did. -/
def fnIsASCIIOnlySplitsOverConcatenationUptoRow : OpenClaim := { program := "ytmdddededmagfab", sum := "05866ecaf05405184e7b421d48a7727f137ab8cc0df9e1dc9e5d329b264ecbcf", func := "github.com/evanw/esbuild/n011_151.FnIsASCIIOnlySplitsOverConcatenation", spec := "fnIsASCIIOnlySplitsOverConcatenation", apart := false, narrowed := true }
def FnIsASCIIOnlySplitsOverConcatenationUptoSaid : Prop := fnIsASCIIOnlySplitsOverConcatenationUptoRow.holds Try.pinned (OpenSpec.upto fnIsASCIIOnlySplitsOverConcatenationSpec)

/-- 'n011_50.FnIsNonPrintableAsciiPartition', WHERE WHAT IT READS IS OF BULK AT MOST 1048576: true; the input reads as it did. -/
def fnIsNonPrintableAsciiPartitionUptoRow : OpenClaim := { program := "ytmdddededmagfab", sum := "05866ecaf05405184e7b421d48a7727f137ab8cc0df9e1dc9e5d329b264ecbcf", func := "github.com/evanw/esbuild/n011_50.FnIsNonPrintableAsciiPartition", spec := "fnIsNonPrintableAsciiPartition", apart := false, narrowed := true }
def FnIsNonPrintableAsciiPartitionUptoSaid : Prop := fnIsNonPrintableAsciiPartitionUptoRow.holds Try.pinned (OpenSpec.upto fnIsNonPrintableAsciiPartitionSpec)

/-- 'n011_146.FnHasSymmetricAndDistributive', WHERE WHAT IT READS IS OF BULK AT MOST 1048576: true; the input reads as it did. -/
def fnHasSymmetricAndDistributiveUptoRow : OpenClaim := { program := "ytmdddededmagfab", sum := "05866ecaf05405184e7b421d48a7727f137ab8cc0df9e1dc9e5d329b264ecbcf", func := "github.com/evanw/esbuild/n011_146.FnHasSymmetricAndDistributive", spec := "fnHasSymmetricAndDistributive", apart := false, narrowed := true }
def FnHasSymmetricAndDistributiveUptoSaid : Prop := fnHasSymmetricAndDistributiveUptoRow.holds Try.pinned (OpenSpec.upto fnHasSymmetricAndDistributiveSpec)

end Rows
end Go.Proofs.Ytmdddededmagfab
