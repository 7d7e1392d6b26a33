/-
  For every slice of files, every two start files and either choice of annotations the law FnMarkFileLiveUnionOfSeeds returns true: marking a and then b, or b and then a, leaves live what marking each alone does, together.
-/
import Derived.Test.YtebecbidodnneaaRows
import Derived.WalkKit
import Derived.ProofKit
import Derived.OpenShut
import Derived.ShutString
import Derived.ChangeOld
import Derived.Below
import Derived.Test.YtebecbidodnneaaLw
namespace Go.Proofs.Ytebecbidodnneaa.fnMarkFileLiveUnionOfSeeds
open Go.ChangeShapes Go.WideShapes Go.ChangeAt Go.RowKit
open Go.ChangeMaps (open_string shut_string)
set_option linter.unusedVariables false

theorem own : ownKnob Try.prog.godebug = none := by kernel_rfl
theorem laidOut : laidOutB Try.prog = true := by kernel_rfl

/-- WHAT THE WALK IS TOLD OF A SLICE OF INTEGERS THAT CAME IN: it is nil; or it leads to a row of 'cap' cells, the numbers 'zs' (the first 'len' are its elements, the rest its spare room), each fitting its kind. -/
def IsRow (k : IntKind) (w : World) (a : Option Addr) (len cap : Nat) (zs : List Int) : Prop :=
  (a = none ∧ len = 0 ∧ cap = 0 ∧ zs = []) ∨
  ∃ x, a = some x ∧ len ≤ cap ∧ cap ≤ maxLen ∧ zs.length = cap ∧ (∀ i, i < zs.length → w.cell? (x.add i) = some (.int k (zs.getD i 0))) ∧ ∀ n ∈ zs, (Lit.int k n).wf = true

abbrev LW := List Wf

theorem walk (a0 : Option Addr) (len0 cap0 : Nat) (z0 : LW) (a1 : Int) (a2 : Int) (a3 : Bool) (w : World) (w0 : IsF w a0 len0 cap0 z0) (w1 : (Lit.int .u32 a1).wf = true) (w2 : (Lit.int .u32 a2).wf = true) :
    Calls Try.prog 3 #[.slice a0 len0 cap0, .int .u32 a1, .int .u32 a2, .bool a3] w fun e w' => e = .returned (.bool true) ∧ Below w.heap.size w w' := by
  obtain ⟨h1, h2, _, h4⟩ := w0
  have hx := wf_u32 w1
  have hy := wf_u32 w2
  exact law_any a0 len0 cap0 z0 h1 h4 a1 a2 a3 hx.1 hx.2 hy.1 hy.2 w h2

set_option maxRecDepth 100000 in
theorem lifted (os : Os) (started : os.Started) (H : Type) (enc : TypeId × Value → H) :
    ReturnsInHanded {} Try.checked os 3 .any (Rows.fnMarkFileLiveUnionOfSeedsSpec.pre6 enc Try.prog Try.f3 Rows.fnMarkFileLiveUnionOfSeedsRow.domain false) (Rows.fnMarkFileLiveUnionOfSeedsSpec.post enc Try.prog Try.f3 false true false false) := by
  refine returnsInHanded_of_change (C := Try.checked) own started (by kernel_rfl) Try.func3
    (ChangeSpec.witness6 (enc := enc) (C := Try.checked) false ⟨#[], #[.slice none 0 0, .int .u32 0, .int .u32 0, .bool false], []⟩ 8 (by kernel_rfl) (by kernel_rfl) (by kernel_rfl) (by kernel_rfl)) ?_
  intro W base args ds gs before hval0 hW hcnd _
  have hval : ∀ (j : Nat) t v, Try.f3.params[j]? = some t → args[j]? = some v → Value.okWide Try.prog W .any base t v := hval0
  have hW' := hW
  obtain ⟨p, q, hA0, hV, rfl, hfz, hnd⟩ := hW
  have hA : DataW.TrodAll enc Try.prog W 0 (fun _ => true) true Try.f3.params.toList args.toList ds p := hA0
  rw [Try.params3] at hA hval
  obtain ⟨v0, vs0, d0, ds0, p0, q0, hargs, rfl, rfl, h0, r0⟩ := trodAll_cons hA
  obtain ⟨v1, vs1, d1, ds1, p1, q1, rfl, rfl, rfl, h1, r1⟩ := trodAll_cons r0
  obtain ⟨v2, vs2, d2, ds2, p2, q2, rfl, rfl, rfl, h2, r2⟩ := trodAll_cons r1
  obtain ⟨v3, vs3, d3, ds3, p3, q3, rfl, rfl, rfl, h3, r3⟩ := trodAll_cons r2
  obtain ⟨rfl, rfl, rfl⟩ := trodAll_nil r3
  obtain rfl : args = #[v0, v1, v2, v3] := by cases args; simp_all
  obtain ⟨rfl, rfl⟩ := trodVars_none hV
  obtain ⟨a0, len0, cap0, rfl⟩ := okWide_slice Try.underlying22 (hval 0 22 v0 rfl rfl)
  have k0 := h0
  have lt0 : ∀ x ∈ p0, x.block < W.heap.size := by obtain ⟨m, hm⟩ := k0; exact DataW.trod_lt m _ _ _ hm
  obtain ⟨z0, w0⟩ : ∃ zs, IsF W a0 len0 cap0 zs := by
    obtain ⟨fuel, hf⟩ := h0
    exact open_f hf
  obtain ⟨a1, rfl, rfl, rfl, w1⟩ := open_int Try.underlying23 (hval 1 23 v1 rfl rfl) h1
  obtain ⟨a2, rfl, rfl, rfl, w2⟩ := open_int Try.underlying23 (hval 2 23 v2 rfl rfl) h2
  obtain ⟨a3, rfl, rfl, rfl⟩ := open_bool Try.underlying4 (hval 3 4 v3 rfl rfl) h3
  clear hA0 hval0
  refine (walk a0 len0 cap0 z0 a1 a2 a3 W w0 w1 w2).mono fun e W' ⟨he, bel⟩ => ?_
  subst he
  exact ⟨_, rfl, _, _, _, [], _, [], hW', trodAll_mk1 (shut_bool Try.underlying4 _), (trodAll_cons_mk (Below.trod laidOut (by kernel_rfl) (of_decide_eq_true (by kernel_rfl)) k0 bel lt0) (trodAll_cons_mk (shut_int Try.underlying23 w1) (trodAll_cons_mk (shut_int Try.underlying23 w2) (trodAll_cons_mk (shut_bool Try.underlying4 _) trodAll_mk0)))), rfl, bel.frame _, fun h => by cases h⟩

theorem q1 : Try.pinned.checked.prog.funcNamed Rows.fnMarkFileLiveUnionOfSeedsRow.func = some 3 := by kernel_rfl
set_option maxHeartbeats 4000000 in
theorem q2 : joinedFacts Try.pinned.checked.prog 3 Try.f3 Rows.fnMarkFileLiveUnionOfSeedsSpec Rows.fnMarkFileLiveUnionOfSeedsRow = true := by
  unfold joinedFacts
  simp only [Bool.and_eq_true]
  repeat' apply And.intro
  all_goals (as_aux_lemma => kernel_rfl)
theorem q3 : Try.f3.isInstance Try.pinned.checked.prog Rows.fnMarkFileLiveUnionOfSeedsRow.origin Rows.fnMarkFileLiveUnionOfSeedsRow.targs := of_decide_eq_true (by kernel_rfl)
theorem q4 : Try.f3.isWrapper Try.pinned.checked.prog Rows.fnMarkFileLiveUnionOfSeedsRow.wrapper Rows.fnMarkFileLiveUnionOfSeedsRow.mainSum := by
  unfold Func.isWrapper; first | (rw [if_pos (by decide +kernel)]; kernel_rfl) | (rw [if_neg (by decide +kernel)]; exact ⟨rfl, rfl⟩)
theorem over : Rows.fnMarkFileLiveUnionOfSeedsRow.holds Try.pinned (OpenSpec.ofChange Rows.fnMarkFileLiveUnionOfSeedsSpec) :=
  OpenClaim.holds_of_wide 3 Try.f3 rfl rfl rfl rfl rfl rfl rfl ⟨rfl, rfl, rfl, rfl, rfl⟩ rfl rfl rfl rfl rfl q1 Try.func3 q2 q3 q4
    (fun os started H enc _ => lifted os started H enc)

/-- THE STATEMENT -/
theorem proved : Rows.FnMarkFileLiveUnionOfSeedsSaid := over
#print axioms proved
end Go.Proofs.Ytebecbidodnneaa.fnMarkFileLiveUnionOfSeeds
