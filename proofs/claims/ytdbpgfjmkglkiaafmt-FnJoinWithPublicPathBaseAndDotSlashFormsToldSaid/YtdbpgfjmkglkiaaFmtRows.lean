/-
  No cell of these rows narrows 'for every input' (looked for: loops, veiled, ifaces, maps, wideKeys, modest, calm, conditions, laid).
  DERIVED. THE GIVEN ROWS OF THIS SEAT. 1 by the template 'for every input the law returns true; each argument reads behind the call as it read before'; 0 by the template 'total and deterministic' (their statements: YtdbpgfjmkglkiaaFmtTotals.lean).
  GIVEN WITH THE SEED: the statements are not yours to turn. If you find one false, say at which input.
  Laid BY PROGRAM, IN A SANDBOX (cutbox-rows.mjs): the forced cells as the released guide's own fill.sh prints them over the translation dbf0ac610bc95e21… (all of the seat's roots in one cut). By AI agents, Wed Nov 11 2026. No macro, syntax, notation, axiom, sorry.
-/
import Derived.Test.YtdbpgfjmkglkiaaFmtChecked
import GoSem.Claim
import GoSem.ClaimJoined
import GoSem.ClaimMapViews
import Derived.JoinedTies
import Derived.KernelRfl
namespace Go.Proofs.YtdbpgfjmkglkiaaFmt
/- THE CELL 'sum', in the pinned program and in every row, IS THE sha256 OF THE DUMP (.gsa) THAT YtdbpgfjmkglkiaaFmtProg.lean LOADS. Nothing in Lean hashes anything: it is a label: what it is worth is what the hold of that sum in a sandbox is worth. -/
noncomputable def Tryf.pinned : Pinned := { name := "ytdbpgfjmkglkiaafmt", sum := "dbf0ac610bc95e21c6ffe60e855f85488cef0bd5ad94c6e6dc356cac1722dfb2", checked := Tryf.checked }
namespace Rows
def none {H : Type} : Left H := { results := [], args := [] }

/-- 'n011_85.FnJoinWithPublicPathBaseAndDotSlashForms': WHATEVER THE INPUT: true; the input reads as it did. -/
def fnJoinWithPublicPathBaseAndDotSlashFormsSpec : ChangeSpec := { name := "fnJoinWithPublicPathBaseAndDotSlashForms", fn := fun _ => fun
  | [d1, d2] => { results := [.lit (.bool true)], args := [d1, d2] }
  | _ => none }
def fnJoinWithPublicPathBaseAndDotSlashFormsRow : OpenClaim := { program := "ytdbpgfjmkglkiaafmt", sum := "dbf0ac610bc95e21c6ffe60e855f85488cef0bd5ad94c6e6dc356cac1722dfb2", func := "github.com/evanw/esbuild/n011_85.FnJoinWithPublicPathBaseAndDotSlashForms", spec := "fnJoinWithPublicPathBaseAndDotSlashForms", stops := ["fmt.Sprintf"], inPlace := ["fmt.Sprintf"], apart := false }
/-- NO THEOREM (fmt's text is open here; it may be false): for the released tool's asking of the row's closed facts alone. THE STATEMENT IS 'FnJoinWithPublicPathBaseAndDotSlashFormsToldSaid' (YtdbpgfjmkglkiaaFmtCards.lean). -/
def FnJoinWithPublicPathBaseAndDotSlashFormsFormAsk : Prop := fnJoinWithPublicPathBaseAndDotSlashFormsRow.holds Tryf.pinned (OpenSpec.ofChange fnJoinWithPublicPathBaseAndDotSlashFormsSpec)

/-- ITS FALSE NEIGHBOUR: 'it returns false'. Refute it at one input. -/
def fnJoinWithPublicPathBaseAndDotSlashFormsWrong : ChangeSpec := { name := "fnJoinWithPublicPathBaseAndDotSlashForms", fn := fun _ => fun
  | [d1, d2] => { results := [.lit (.bool false)], args := [d1, d2] }
  | _ => none }
def FnJoinWithPublicPathBaseAndDotSlashFormsWrongFormAsk : Prop := fnJoinWithPublicPathBaseAndDotSlashFormsRow.holds Tryf.pinned (OpenSpec.ofChange fnJoinWithPublicPathBaseAndDotSlashFormsWrong)

end Rows
end Go.Proofs.YtdbpgfjmkglkiaaFmt
