/-
  No cell of these rows narrows 'for every input' (looked for: loops, veiled, ifaces, maps, wideKeys, modest, calm, conditions, laid).
  DERIVED. THE GIVEN ROWS OF THIS SEAT. 6 by the template 'for every input the law returns true; each argument reads behind the call as it read before'; 0 by the template 'total and deterministic' (their statements: YtmdddededmagfaaTotals.lean).
  GIVEN WITH THE SEED: the statements are not yours to turn. If you find one false, say at which input.
  Laid BY PROGRAM, IN A SANDBOX (cutbox-rows.mjs): the forced cells as the released guide's own fill.sh prints them over the translation 523da647cdde447d… (all of the seat's roots in one cut). By AI agents, Wed Nov 11 2026. No macro, syntax, notation, axiom, sorry.
-/
import Derived.Test.YtmdddededmagfaaChecked
import GoSem.Claim
import GoSem.ClaimJoined
import GoSem.ClaimMapViews
import Derived.JoinedTies
import Derived.KernelRfl
namespace Go.Proofs.Ytmdddededmagfaa
/- THE CELL 'sum', in the pinned program and in every row, IS THE sha256 OF THE DUMP (.gsa) THAT YtmdddededmagfaaProg.lean LOADS. Nothing in Lean hashes anything: it is a label: what it is worth is what the hold of that sum in a sandbox is worth. -/
noncomputable def Try.pinned : Pinned := { name := "ytmdddededmagfaa", sum := "523da647cdde447de76d675a3a573da02726c34a474ed204413b8c48742235d9", checked := Try.checked }
namespace Rows
def none {H : Type} : Left H := { results := [], args := [] }

/-- 'n011_230.FnIsLetterASCIIFoldsToUpper': WHATEVER THE INPUT: true; the input reads as it did. -/
def fnIsLetterASCIIFoldsToUpperSpec : ChangeSpec := { name := "fnIsLetterASCIIFoldsToUpper", fn := fun _ => fun
  | [d] => { results := [.lit (.bool true)], args := [d] }
  | _ => none }
def fnIsLetterASCIIFoldsToUpperRow : OpenClaim := { program := "ytmdddededmagfaa", sum := "523da647cdde447de76d675a3a573da02726c34a474ed204413b8c48742235d9", func := "github.com/evanw/esbuild/n011_230.FnIsLetterASCIIFoldsToUpper", spec := "fnIsLetterASCIIFoldsToUpper", apart := false }
def FnIsLetterASCIIFoldsToUpperSaid : Prop := fnIsLetterASCIIFoldsToUpperRow.holds Try.pinned (OpenSpec.ofChange fnIsLetterASCIIFoldsToUpperSpec)

/-- ITS FALSE NEIGHBOUR: 'it returns false'. Refute it at one input. -/
def fnIsLetterASCIIFoldsToUpperWrong : ChangeSpec := { name := "fnIsLetterASCIIFoldsToUpper", fn := fun _ => fun
  | [d] => { results := [.lit (.bool false)], args := [d] }
  | _ => none }
def FnIsLetterASCIIFoldsToUpperWrongFalsely : Prop := fnIsLetterASCIIFoldsToUpperRow.holds Try.pinned (OpenSpec.ofChange fnIsLetterASCIIFoldsToUpperWrong)

/-- 'n011_50.FnIsNewlineIsWhitespaceWithoutBlanks': WHATEVER THE INPUT: true; the input reads as it did. -/
def fnIsNewlineIsWhitespaceWithoutBlanksSpec : ChangeSpec := { name := "fnIsNewlineIsWhitespaceWithoutBlanks", fn := fun _ => fun
  | [d] => { results := [.lit (.bool true)], args := [d] }
  | _ => none }
def fnIsNewlineIsWhitespaceWithoutBlanksRow : OpenClaim := { program := "ytmdddededmagfaa", sum := "523da647cdde447de76d675a3a573da02726c34a474ed204413b8c48742235d9", func := "github.com/evanw/esbuild/n011_50.FnIsNewlineIsWhitespaceWithoutBlanks", spec := "fnIsNewlineIsWhitespaceWithoutBlanks", apart := false }
def FnIsNewlineIsWhitespaceWithoutBlanksSaid : Prop := fnIsNewlineIsWhitespaceWithoutBlanksRow.holds Try.pinned (OpenSpec.ofChange fnIsNewlineIsWhitespaceWithoutBlanksSpec)

/-- ITS FALSE NEIGHBOUR: 'it returns false'. Refute it at one input. -/
def fnIsNewlineIsWhitespaceWithoutBlanksWrong : ChangeSpec := { name := "fnIsNewlineIsWhitespaceWithoutBlanks", fn := fun _ => fun
  | [d] => { results := [.lit (.bool false)], args := [d] }
  | _ => none }
def FnIsNewlineIsWhitespaceWithoutBlanksWrongFalsely : Prop := fnIsNewlineIsWhitespaceWithoutBlanksRow.holds Try.pinned (OpenSpec.ofChange fnIsNewlineIsWhitespaceWithoutBlanksWrong)

/-- 'n011_156.FnSymbolFeatureAtMostOneClassPrivateBit': WHATEVER THE INPUT: true; the input reads as it did. -/
def fnSymbolFeatureAtMostOneClassPrivateBitSpec : ChangeSpec := { name := "fnSymbolFeatureAtMostOneClassPrivateBit", fn := fun _ => fun
  | [d] => { results := [.lit (.bool true)], args := [d] }
  | _ => none }
def fnSymbolFeatureAtMostOneClassPrivateBitRow : OpenClaim := { program := "ytmdddededmagfaa", sum := "523da647cdde447de76d675a3a573da02726c34a474ed204413b8c48742235d9", func := "github.com/evanw/esbuild/n011_156.FnSymbolFeatureAtMostOneClassPrivateBit", spec := "fnSymbolFeatureAtMostOneClassPrivateBit", apart := false }
def FnSymbolFeatureAtMostOneClassPrivateBitSaid : Prop := fnSymbolFeatureAtMostOneClassPrivateBitRow.holds Try.pinned (OpenSpec.ofChange fnSymbolFeatureAtMostOneClassPrivateBitSpec)

/-- ITS FALSE NEIGHBOUR: 'it returns false'. Refute it at one input. -/
def fnSymbolFeatureAtMostOneClassPrivateBitWrong : ChangeSpec := { name := "fnSymbolFeatureAtMostOneClassPrivateBit", fn := fun _ => fun
  | [d] => { results := [.lit (.bool false)], args := [d] }
  | _ => none }
def FnSymbolFeatureAtMostOneClassPrivateBitWrongFalsely : Prop := fnSymbolFeatureAtMostOneClassPrivateBitRow.holds Try.pinned (OpenSpec.ofChange fnSymbolFeatureAtMostOneClassPrivateBitWrong)

/-- 'n011_2.FnIsHexMatchesTableModel': WHATEVER THE INPUT: true; the input reads as it did. -/
def fnIsHexMatchesTableModelSpec : ChangeSpec := { name := "fnIsHexMatchesTableModel", fn := fun _ => fun
  | [d] => { results := [.lit (.bool true)], args := [d] }
  | _ => none }
def fnIsHexMatchesTableModelRow : OpenClaim := { program := "ytmdddededmagfaa", sum := "523da647cdde447de76d675a3a573da02726c34a474ed204413b8c48742235d9", func := "github.com/evanw/esbuild/n011_2.FnIsHexMatchesTableModel", spec := "fnIsHexMatchesTableModel", apart := false }
def FnIsHexMatchesTableModelSaid : Prop := fnIsHexMatchesTableModelRow.holds Try.pinned (OpenSpec.ofChange fnIsHexMatchesTableModelSpec)

/-- ITS FALSE NEIGHBOUR: 'it returns false'. Refute it at one input. -/
def fnIsHexMatchesTableModelWrong : ChangeSpec := { name := "fnIsHexMatchesTableModel", fn := fun _ => fun
  | [d] => { results := [.lit (.bool false)], args := [d] }
  | _ => none }
def FnIsHexMatchesTableModelWrongFalsely : Prop := fnIsHexMatchesTableModelRow.holds Try.pinned (OpenSpec.ofChange fnIsHexMatchesTableModelWrong)

/-- 'n011_291.FnEngineStringStrictlyAlphabetical': WHATEVER THE INPUT: true; the input reads as it did. -/
def fnEngineStringStrictlyAlphabeticalSpec : ChangeSpec := { name := "fnEngineStringStrictlyAlphabetical", fn := fun _ => fun
  | [d1, d2] => { results := [.lit (.bool true)], args := [d1, d2] }
  | _ => none }
def fnEngineStringStrictlyAlphabeticalRow : OpenClaim := { program := "ytmdddededmagfaa", sum := "523da647cdde447de76d675a3a573da02726c34a474ed204413b8c48742235d9", func := "github.com/evanw/esbuild/n011_291.FnEngineStringStrictlyAlphabetical", spec := "fnEngineStringStrictlyAlphabetical", apart := false }
def FnEngineStringStrictlyAlphabeticalSaid : Prop := fnEngineStringStrictlyAlphabeticalRow.holds Try.pinned (OpenSpec.ofChange fnEngineStringStrictlyAlphabeticalSpec)

/-- ITS FALSE NEIGHBOUR: 'it returns false'. Refute it at one input. -/
def fnEngineStringStrictlyAlphabeticalWrong : ChangeSpec := { name := "fnEngineStringStrictlyAlphabetical", fn := fun _ => fun
  | [d1, d2] => { results := [.lit (.bool false)], args := [d1, d2] }
  | _ => none }
def FnEngineStringStrictlyAlphabeticalWrongFalsely : Prop := fnEngineStringStrictlyAlphabeticalRow.holds Try.pinned (OpenSpec.ofChange fnEngineStringStrictlyAlphabeticalWrong)

/-- 'n011_156.FnCSSFeatureHasSpec': WHATEVER THE INPUT: true; the input reads as it did. -/
def fnCSSFeatureHasSpecSpec : ChangeSpec := { name := "fnCSSFeatureHasSpec", fn := fun _ => fun
  | [d1, d2] => { results := [.lit (.bool true)], args := [d1, d2] }
  | _ => none }
def fnCSSFeatureHasSpecRow : OpenClaim := { program := "ytmdddededmagfaa", sum := "523da647cdde447de76d675a3a573da02726c34a474ed204413b8c48742235d9", func := "github.com/evanw/esbuild/n011_156.FnCSSFeatureHasSpec", spec := "fnCSSFeatureHasSpec", apart := false }
def FnCSSFeatureHasSpecSaid : Prop := fnCSSFeatureHasSpecRow.holds Try.pinned (OpenSpec.ofChange fnCSSFeatureHasSpecSpec)

/-- ITS FALSE NEIGHBOUR: 'it returns false'. Refute it at one input. -/
def fnCSSFeatureHasSpecWrong : ChangeSpec := { name := "fnCSSFeatureHasSpec", fn := fun _ => fun
  | [d1, d2] => { results := [.lit (.bool false)], args := [d1, d2] }
  | _ => none }
def FnCSSFeatureHasSpecWrongFalsely : Prop := fnCSSFeatureHasSpecRow.holds Try.pinned (OpenSpec.ofChange fnCSSFeatureHasSpecWrong)

/- THE SECOND FORM. 'bulk': how many values and letters a reading holds, each counted each time it is reached (what is shared counts as often as it is met; a slice's spare places count too). A statement '..UptoSaid' is the law's where the arguments, and the package variables that the reading takes, are together of bulk at most 1048576: NARROWER than '..Said'. Prove '..Said' where nothing that the law and all that it calls make is longer than what came in: it says more and counts as full. Else prove '..UptoSaid'. A law counts once. -/
mutual
def uptoBulk {H : Type} : DataW H → Nat
  | .lit (.string bytes) => bytes.length + 1
  | .lit _ => 1
  | .nil => 1
  | .ptr d => uptoBulk d + 1
  | .slice elems spare => uptoBulkAll elems + uptoBulkAll spare + 1
  | .agg parts => uptoBulkAll parts + 1
  | .iface _ d => uptoBulk d + 1
  | .map entries => uptoBulkEntries entries + 1
  | .held _ => 1
def uptoBulkAll {H : Type} : List (DataW H) → Nat
  | [] => 0
  | d :: r => uptoBulk d + uptoBulkAll r
def uptoBulkEntries {H : Type} : List (Lit × DataW H) → Nat
  | [] => 0
  | x :: r => uptoBulkEntry x + uptoBulkEntries r
def uptoBulkEntry {H : Type} : Lit × DataW H → Nat
  | (.string bytes, d) => bytes.length + uptoBulk d + 1
  | (_, d) => uptoBulk d + 1
 end
def uptoSmall : (H : Type) → List (DataW H) → Bool := fun _ ds => decide (uptoBulkAll ds ≤ 1048576)
def OpenSpec.upto (s : _root_.Go.ChangeSpec) : _root_.Go.OpenSpec := { _root_.Go.OpenSpec.ofChange s with cond := some uptoSmall }

/-- 'n011_230.FnIsLetterASCIIFoldsToUpper', WHERE WHAT IT READS IS OF BULK AT MOST 1048576: true; the input reads as it did. -/
def fnIsLetterASCIIFoldsToUpperUptoRow : OpenClaim := { program := "ytmdddededmagfaa", sum := "523da647cdde447de76d675a3a573da02726c34a474ed204413b8c48742235d9", func := "github.com/evanw/esbuild/n011_230.FnIsLetterASCIIFoldsToUpper", spec := "fnIsLetterASCIIFoldsToUpper", apart := false, narrowed := true }
def FnIsLetterASCIIFoldsToUpperUptoSaid : Prop := fnIsLetterASCIIFoldsToUpperUptoRow.holds Try.pinned (OpenSpec.upto fnIsLetterASCIIFoldsToUpperSpec)

/-- 'n011_50.FnIsNewlineIsWhitespaceWithoutBlanks', WHERE WHAT IT READS IS OF BULK AT MOST 1048576: true; the input reads as it did. -/
def fnIsNewlineIsWhitespaceWithoutBlanksUptoRow : OpenClaim := { program := "ytmdddededmagfaa", sum := "523da647cdde447de76d675a3a573da02726c34a474ed204413b8c48742235d9", func := "github.com/evanw/esbuild/n011_50.FnIsNewlineIsWhitespaceWithoutBlanks", spec := "fnIsNewlineIsWhitespaceWithoutBlanks", apart := false, narrowed := true }
def FnIsNewlineIsWhitespaceWithoutBlanksUptoSaid : Prop := fnIsNewlineIsWhitespaceWithoutBlanksUptoRow.holds Try.pinned (OpenSpec.upto fnIsNewlineIsWhitespaceWithoutBlanksSpec)

/-- 'n011_156.FnSymbolFeatureAtMostOneClassPrivateBit', WHERE WHAT IT READS IS OF BULK AT MOST 1048576: true; the input reads as it did. -/
def fnSymbolFeatureAtMostOneClassPrivateBitUptoRow : OpenClaim := { program := "ytmdddededmagfaa", sum := "523da647cdde447de76d675a3a573da02726c34a474ed204413b8c48742235d9", func := "github.com/evanw/esbuild/n011_156.FnSymbolFeatureAtMostOneClassPrivateBit", spec := "fnSymbolFeatureAtMostOneClassPrivateBit", apart := false, narrowed := true }
def FnSymbolFeatureAtMostOneClassPrivateBitUptoSaid : Prop := fnSymbolFeatureAtMostOneClassPrivateBitUptoRow.holds Try.pinned (OpenSpec.upto fnSymbolFeatureAtMostOneClassPrivateBitSpec)

/-- 'n011_2.FnIsHexMatchesTableModel', WHERE WHAT IT READS IS OF BULK AT MOST 1048576: true; the input reads as it did. -/
def fnIsHexMatchesTableModelUptoRow : OpenClaim := { program := "ytmdddededmagfaa", sum := "523da647cdde447de76d675a3a573da02726c34a474ed204413b8c48742235d9", func := "github.com/evanw/esbuild/n011_2.FnIsHexMatchesTableModel", spec := "fnIsHexMatchesTableModel", apart := false, narrowed := true }
def FnIsHexMatchesTableModelUptoSaid : Prop := fnIsHexMatchesTableModelUptoRow.holds Try.pinned (OpenSpec.upto fnIsHexMatchesTableModelSpec)

/-- 'n011_291.FnEngineStringStrictlyAlphabetical', WHERE WHAT IT READS IS OF BULK AT MOST 1048576: true; the input reads as it did. -/
def fnEngineStringStrictlyAlphabeticalUptoRow : OpenClaim := { program := "ytmdddededmagfaa", sum := "523da647cdde447de76d675a3a573da02726c34a474ed204413b8c48742235d9", func := "github.com/evanw/esbuild/n011_291.FnEngineStringStrictlyAlphabetical", spec := "fnEngineStringStrictlyAlphabetical", apart := false, narrowed := true }
def FnEngineStringStrictlyAlphabeticalUptoSaid : Prop := fnEngineStringStrictlyAlphabeticalUptoRow.holds Try.pinned (OpenSpec.upto fnEngineStringStrictlyAlphabeticalSpec)

/-- 'n011_156.FnCSSFeatureHasSpec', WHERE WHAT IT READS IS OF BULK AT MOST 1048576: true; the input reads as it did. -/
def fnCSSFeatureHasSpecUptoRow : OpenClaim := { program := "ytmdddededmagfaa", sum := "523da647cdde447de76d675a3a573da02726c34a474ed204413b8c48742235d9", func := "github.com/evanw/esbuild/n011_156.FnCSSFeatureHasSpec", spec := "fnCSSFeatureHasSpec", apart := false, narrowed := true }
def FnCSSFeatureHasSpecUptoSaid : Prop := fnCSSFeatureHasSpecUptoRow.holds Try.pinned (OpenSpec.upto fnCSSFeatureHasSpecSpec)

end Rows
end Go.Proofs.Ytmdddededmagfaa
