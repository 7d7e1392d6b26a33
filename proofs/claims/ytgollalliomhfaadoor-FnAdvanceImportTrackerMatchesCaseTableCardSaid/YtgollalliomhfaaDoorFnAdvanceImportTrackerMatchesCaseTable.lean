/-
  For every import and every imported file of the law FnAdvanceImportTrackerMatchesCaseTable it returns true: one step of import resolution follows the table. The variable ast.InvalidRef is laid with its datum (tied card).
-/
import Derived.Test.YtgollalliomhfaaDoorCards
import Derived.Test.YtgollalliomhfaaDoorTie
import Derived.WalkKit
import Derived.ProofKit
import Derived.OpenShut
import Derived.ShutString
import Derived.ChangeOld
import Derived.Below
import Derived.Deep.DeepHandedRow
import Derived.Deep.DeepWitnessRowRef
import Derived.Lib.LaidIn
import Derived.Lib.LaidSlice
import Derived.Lib.LaidU8
import Derived.PinnedBridge
import Derived.OpenVars
import Derived.Deep.Strs
import Derived.Test.YtgollalliomhfaaDoorLx
namespace Go.Proofs.YtgollalliomhfaaDoor.fnAdvanceImportTrackerMatchesCaseTable
open Go.ChangeShapes Go.WideShapes Go.ChangeAt Go.RowKit
open Go.ChangeMaps (open_string shut_string)
set_option linter.unusedVariables false

theorem own : ownKnob Tryd.prog.godebug = none := by kernel_rfl
theorem laidOut : laidOutB Tryd.prog = true := by kernel_rfl

/-- WHAT THE WALK IS TOLD OF A SLICE OF INTEGERS THAT CAME IN: it is nil; or it leads to a row of 'cap' cells, the numbers 'zs' (the first 'len' are its elements, the rest its spare room), each fitting its kind. -/
def IsRow (k : IntKind) (w : World) (a : Option Addr) (len cap : Nat) (zs : List Int) : Prop :=
  (a = none ∧ len = 0 ∧ cap = 0 ∧ zs = []) ∨
  ∃ x, a = some x ∧ len ≤ cap ∧ cap ≤ maxLen ∧ zs.length = cap ∧ (∀ i, i < zs.length → w.cell? (x.add i) = some (.int k (zs.getD i 0))) ∧ ∀ n ∈ zs, (Lit.int k n).wf = true

theorem iv_of {w : World} (hL : laidMetH Tryd.prog Rows.fnAdvanceImportTrackerMatchesCaseTableRow.laid w) : Iv w := by
  obtain ⟨g, t, cs, fuel, p, hg, hty, hvar, hr⟩ := Lib.laidMet.reads hL (.head _)
  obtain rfl : 0 = g := Option.some.inj ((show Tryd.prog.globalNamed "github.com/evanw/esbuild/internal/ast.InvalidRef" = some 0 by kernel_rfl).symm.trans hg)
  obtain rfl : 31 = t := Option.some.inj ((show (Tryd.prog.globals[0]?).map (·.type) = some 31 by kernel_rfl).symm.trans hty)
  have h := Lib.ints_of_struct (zs := [4294967295, 4294967295]) (k := .u32) Tryd.underlying31 (by
    intro i f hf
    match i, hf with
    | 0, hf => cases hf; exact ⟨Tryd.underlying29, rfl, by kernel_rfl⟩
    | 1, hf => cases hf; exact ⟨Tryd.underlying29, rfl, by kernel_rfl⟩
    | i + 2, hf => simp at hf) (by kernel_rfl) hr
  refine ⟨?_, ?_⟩
  · rw [World.var?_cell hg hvar 0, ← Array.getElem?_toList, h]; rfl
  · rw [World.var?_cell hg hvar 1, ← Array.getElem?_toList, h]; rfl

theorem walk (a0 : ByteArray) (a1 : Bool) (a2 : Bool) (a3 : Bool) (a4 : Bool) (a5 : Int) (a6 : Bool) (a7 : Bool) (a8 : Int) (a9 : Option Addr) (len9 cap9 : Nat) (z9 : Nat → ByteArray) (a10 : Bool) (a11 : Bool) (w : World) (w0 : a0.size ≤ maxLen) (w5 : (Lit.int .i32 a5).wf = true) (w8 : (Lit.int .u8 a8).wf = true) (w9 : IsStrs w a9 len9 cap9 z9) (hL : laidMetH Tryd.prog Rows.fnAdvanceImportTrackerMatchesCaseTableRow.laid w) :
    Calls Tryd.prog 3 #[.string a0, .bool a1, .bool a2, .bool a3, .bool a4, .int .i32 a5, .bool a6, .bool a7, .int .u8 a8, .slice a9 len9 cap9, .bool a10, .bool a11] w fun e w' => e = .returned (.bool true) ∧ Below w.heap.size w w' := by
  obtain ⟨ts, h1, h2, h3, h4, h5⟩ := strs_in w9
  exact law_any a0 a1 a2 a3 a4 a5 a6 a7 a8 a9 len9 cap9 ts h1 a10 a11 w0 h4 w h2 (iv_of hL)

open Go.Lib
set_option maxRecDepth 100000 in
theorem contract (H : Type) (enc : TypeId × Value → H) (W : World) (base : Nat) (args : Array Value) (ds gs : List (DataW H)) (before : List MemPlace)
    (hval : ∀ (j : Nat) t v, Tryd.f3.params[j]? = some t → args[j]? = some v → Value.okWide Tryd.prog W .any base t v)
    (hW : DataW.Whole enc Tryd.prog Tryd.f3.params.toList Rows.fnAdvanceImportTrackerMatchesCaseTableSpec.vars false W args.toList ds gs before) (hL : laidMetH Tryd.prog Rows.fnAdvanceImportTrackerMatchesCaseTableRow.laid W) :
    Calls Tryd.prog 3 args W fun e W' => ∃ v, e = .returned v ∧ Rows.fnAdvanceImportTrackerMatchesCaseTableSpec.post enc Tryd.prog Tryd.f3 false true false false W args v W' := by
  have hW' := hW
  obtain ⟨p, q, hA0, hV, rfl, hfz, hnd⟩ := hW
  have hA : DataW.TrodAll enc Tryd.prog W 0 (fun _ => true) true Tryd.f3.params.toList args.toList ds p := hA0
  rw [Tryd.params3] at hA hval
  obtain ⟨v0, vs0, d0, ds0, p0, q0, hargs, rfl, rfl, h0, r0⟩ := trodAll_cons hA
  obtain ⟨v1, vs1, d1, ds1, p1, q1, rfl, rfl, rfl, h1, r1⟩ := trodAll_cons r0
  obtain ⟨v2, vs2, d2, ds2, p2, q2, rfl, rfl, rfl, h2, r2⟩ := trodAll_cons r1
  obtain ⟨v3, vs3, d3, ds3, p3, q3, rfl, rfl, rfl, h3, r3⟩ := trodAll_cons r2
  obtain ⟨v4, vs4, d4, ds4, p4, q4, rfl, rfl, rfl, h4, r4⟩ := trodAll_cons r3
  obtain ⟨v5, vs5, d5, ds5, p5, q5, rfl, rfl, rfl, h5, r5⟩ := trodAll_cons r4
  obtain ⟨v6, vs6, d6, ds6, p6, q6, rfl, rfl, rfl, h6, r6⟩ := trodAll_cons r5
  obtain ⟨v7, vs7, d7, ds7, p7, q7, rfl, rfl, rfl, h7, r7⟩ := trodAll_cons r6
  obtain ⟨v8, vs8, d8, ds8, p8, q8, rfl, rfl, rfl, h8, r8⟩ := trodAll_cons r7
  obtain ⟨v9, vs9, d9, ds9, p9, q9, rfl, rfl, rfl, h9, r9⟩ := trodAll_cons r8
  obtain ⟨v10, vs10, d10, ds10, p10, q10, rfl, rfl, rfl, h10, r10⟩ := trodAll_cons r9
  obtain ⟨v11, vs11, d11, ds11, p11, q11, rfl, rfl, rfl, h11, r11⟩ := trodAll_cons r10
  obtain ⟨rfl, rfl, rfl⟩ := trodAll_nil r11
  obtain rfl : args = #[v0, v1, v2, v3, v4, v5, v6, v7, v8, v9, v10, v11] := by cases args; simp_all
  obtain ⟨g1, rfl⟩ : ∃ g1, gs = [g1] := by
    clear hW'
    rcases gs with _ | ⟨x1, gs⟩
    · exact hV.elim
    obtain ⟨_, _, _, _, _, q, _, _, _, _, hV, _⟩ := hV
    rcases gs with _ | ⟨y, gs⟩
    · exact ⟨x1, rfl⟩
    · exact hV.elim
  obtain ⟨a0, rfl, rfl, rfl, w0⟩ := open_string Tryd.underlying9 (hval 0 9 v0 rfl rfl) h0
  obtain ⟨a1, rfl, rfl, rfl⟩ := open_bool Tryd.underlying4 (hval 1 4 v1 rfl rfl) h1
  obtain ⟨a2, rfl, rfl, rfl⟩ := open_bool Tryd.underlying4 (hval 2 4 v2 rfl rfl) h2
  obtain ⟨a3, rfl, rfl, rfl⟩ := open_bool Tryd.underlying4 (hval 3 4 v3 rfl rfl) h3
  obtain ⟨a4, rfl, rfl, rfl⟩ := open_bool Tryd.underlying4 (hval 4 4 v4 rfl rfl) h4
  obtain ⟨a5, rfl, rfl, rfl, w5⟩ := open_int Tryd.underlying21 (hval 5 21 v5 rfl rfl) h5
  obtain ⟨a6, rfl, rfl, rfl⟩ := open_bool Tryd.underlying4 (hval 6 4 v6 rfl rfl) h6
  obtain ⟨a7, rfl, rfl, rfl⟩ := open_bool Tryd.underlying4 (hval 7 4 v7 rfl rfl) h7
  obtain ⟨a8, rfl, rfl, rfl, w8⟩ := open_int Tryd.underlying5 (hval 8 5 v8 rfl rfl) h8
  obtain ⟨a9, len9, cap9, rfl⟩ := okWide_slice Tryd.underlying22 (hval 9 22 v9 rfl rfl)
  have k9 := h9
  have lt9 : ∀ x ∈ p9, x.block < W.heap.size := by obtain ⟨m, hm⟩ := k9; exact DataW.trod_lt m _ _ _ hm
  obtain ⟨z9, w9⟩ : ∃ zs, IsStrs W a9 len9 cap9 zs := by
    obtain ⟨fuel, hf⟩ := h9
    rcases Deep.open_strs Tryd.underlying22 Tryd.underlying9 (by kernel_rfl) hf with ⟨hcs, _⟩ | ⟨x, l, c, m, Sx, hcs, _, hl, hm, hmm, _, hcell⟩
    · simp [Value.cells] at hcs
      obtain ⟨rfl, rfl, rfl⟩ := hcs
      exact ⟨fun _ => ByteArray.empty, .inl ⟨rfl, rfl, rfl⟩⟩
    · simp [Value.cells] at hcs
      obtain ⟨rfl, rfl, rfl⟩ := hcs
      exact ⟨Sx, .inr ⟨_, rfl, hl, hm, fun i hi => hcell i (by rw [hmm]; simpa using hi)⟩⟩
  obtain ⟨a10, rfl, rfl, rfl⟩ := open_bool Tryd.underlying4 (hval 10 4 v10 rfl rfl) h10
  obtain ⟨a11, rfl, rfl, rfl⟩ := open_bool Tryd.underlying4 (hval 11 4 v11 rfl rfl) h11
  clear hA0
  refine (walk a0 a1 a2 a3 a4 a5 a6 a7 a8 a9 len9 cap9 z9 a10 a11 W w0 w5 w8 w9 hL).mono fun e W' ⟨he, bel⟩ => ?_
  subst he
  exact ⟨_, rfl, _, _, _, [], _, q, hW', trodAll_mk1 (shut_bool Tryd.underlying4 _), (trodAll_cons_mk (shut_string Tryd.underlying9 w0) (trodAll_cons_mk (shut_bool Tryd.underlying4 _) (trodAll_cons_mk (shut_bool Tryd.underlying4 _) (trodAll_cons_mk (shut_bool Tryd.underlying4 _) (trodAll_cons_mk (shut_bool Tryd.underlying4 _) (trodAll_cons_mk (shut_int Tryd.underlying21 w5) (trodAll_cons_mk (shut_bool Tryd.underlying4 _) (trodAll_cons_mk (shut_bool Tryd.underlying4 _) (trodAll_cons_mk (shut_int Tryd.underlying5 w8) (trodAll_cons_mk (Below.trod laidOut (by kernel_rfl) (of_decide_eq_true (by kernel_rfl)) k9 bel lt9) (trodAll_cons_mk (shut_bool Tryd.underlying4 _) (trodAll_cons_mk (shut_bool Tryd.underlying4 _) trodAll_mk0)))))))))))), Below.trodVars laidOut bel (by kernel_rfl) hV, bel.frame _, fun h => by cases h⟩


/-- a world for the witness: the settled one, the listed variables holding what their initialisers lay -/
noncomputable def laidWorld (os : Os) : World :=
  let w0 := World.holding Tryd.prog os ⟨#[], #[], []⟩
  let put (h : Array Obj) (g : Nat) (cs : Array Value) : Array Obj := h.modify g fun
    | .cells _ t frozen => .cells cs t frozen
    | o => o
  let h1 := put w0.heap 0 #[.int .u32 4294967295, .int .u32 4294967295]
  { w0 with heap := h1 }


set_option maxRecDepth 1000000 in
theorem piece0 (os : Os) (args : Array Value) : LaidIn Tryd.prog ((laidWorld os).forCall (fun _ _ => 0) ⟨#[], args, []⟩).memory [("github.com/evanw/esbuild/internal/ast.InvalidRef", Rows.laid_github_com_evanw_esbuild_internal_ast_InvalidRef)] [0] :=
  LaidIn.of_run [0] 8 (by kernel_rfl) (by kernel_rfl) (by kernel_rfl) (by kernel_rfl)
set_option maxRecDepth 1000000 in
theorem laid_met (os : Os) (args : Array Value) : laidMet Tryd.prog Rows.fnAdvanceImportTrackerMatchesCaseTableRow.laid ((laidWorld os).forCall (fun _ _ => 0) ⟨#[], args, []⟩).memory :=
  (piece0 os args).met
theorem witness_row (os : Os) {H : Type} (enc : TypeId × Value → H) :
    (OpenSpec.ofChange Rows.fnAdvanceImportTrackerMatchesCaseTableSpec).preRow enc Tryd.prog Tryd.f3 Rows.fnAdvanceImportTrackerMatchesCaseTableRow.domain false Rows.fnAdvanceImportTrackerMatchesCaseTableRow.laid ((laidWorld os).forCall (fun _ _ => 0) ⟨#[], #[.string ByteArray.empty, .bool false, .bool false, .bool false, .bool false, .int .i32 0, .bool false, .bool false, .int .u8 0, .slice none 0 0, .bool false, .bool false], []⟩).memory #[.string ByteArray.empty, .bool false, .bool false, .bool false, .bool false, .int .i32 0, .bool false, .bool false, .int .u8 0, .slice none 0 0, .bool false, .bool false] := by
  have hw : (DataW.whole enc Tryd.prog ((laidWorld os).forCall (fun _ _ => 0) ⟨#[], #[.string ByteArray.empty, .bool false, .bool false, .bool false, .bool false, .int .i32 0, .bool false, .bool false, .int .u8 0, .slice none 0 0, .bool false, .bool false], []⟩).memory Tryd.f3.params.toList Rows.fnAdvanceImportTrackerMatchesCaseTableSpec.vars false (#[.string ByteArray.empty, .bool false, .bool false, .bool false, .bool false, .int .i32 0, .bool false, .bool false, .int .u8 0, .slice none 0 0, .bool false, .bool false] : Array Value).toList 8).map (fun x => (x.1, x.2.1)) =
      some ([.lit (.string []), .lit (.bool false), .lit (.bool false), .lit (.bool false), .lit (.bool false), .lit (.int .i32 0), .lit (.bool false), .lit (.bool false), .lit (.int .u8 0), .nil, .lit (.bool false), .lit (.bool false)], [Rows.laid_github_com_evanw_esbuild_internal_ast_InvalidRef]) := by kernel_rfl
  obtain ⟨⟨x1, x2, x3⟩, hx, hx1⟩ := Option.map_eq_some_iff.1 hw
  simp only [Prod.mk.injEq] at hx1
  obtain ⟨rfl, rfl⟩ := hx1
  exact OpenSpec.preRow_of_cond 8 hx (by kernel_rfl) (fun k hk => by cases hk) (by kernel_rfl) (laid_met os _)

set_option maxRecDepth 100000 in
theorem l1 : Tryd.checked.prog.inits.idxOf? 3 = none := by kernel_rfl
set_option maxRecDepth 100000 in
theorem l2 (os : Os) : ((laidWorld os).forCall (fun _ _ => 0) ⟨#[], #[.string ByteArray.empty, .bool false, .bool false, .bool false, .bool false, .int .i32 0, .bool false, .bool false, .int .u8 0, .slice none 0 0, .bool false, .bool false], []⟩).variablesRefB Tryd.checked.prog = true := by kernel_rfl
set_option maxRecDepth 100000 in
theorem l3 (os : Os) : (((laidWorld os).forCall (fun _ _ => 0) ⟨#[], #[.string ByteArray.empty, .bool false, .bool false, .bool false, .bool false, .int .i32 0, .bool false, .bool false, .int .u8 0, .slice none 0 0, .bool false, .bool false], []⟩).heap.toList.drop Tryd.checked.prog.globals.size).take ((begin Tryd.checked.prog (fun _ _ => 0) default).world.heap.size - Tryd.checked.prog.globals.size) =
      (begin Tryd.checked.prog (fun _ _ => 0) default).world.heap.toList.drop Tryd.checked.prog.globals.size := by kernel_rfl
set_option maxRecDepth 100000 in
theorem l4 (os : Os) : Input.okWideB Tryd.checked.prog ((laidWorld os).forCall (fun _ _ => 0) ⟨#[], #[.string ByteArray.empty, .bool false, .bool false, .bool false, .bool false, .int .i32 0, .bool false, .bool false, .int .u8 0, .slice none 0 0, .bool false, .bool false], []⟩) 3 ⟨#[], #[.string ByteArray.empty, .bool false, .bool false, .bool false, .bool false, .int .i32 0, .bool false, .bool false, .int .u8 0, .slice none 0 0, .bool false, .bool false], []⟩ = true := by kernel_rfl
theorem q1 : Tryd.pinned.checked.prog.funcNamed Rows.fnAdvanceImportTrackerMatchesCaseTableRow.func = some 3 := by kernel_rfl
set_option maxHeartbeats 4000000 in
theorem q2 : joinedFacts Tryd.pinned.checked.prog 3 Tryd.f3 (OpenSpec.ofChange Rows.fnAdvanceImportTrackerMatchesCaseTableSpec).bare Rows.fnAdvanceImportTrackerMatchesCaseTableRow = true := by
  unfold joinedFacts
  simp only [Bool.and_eq_true]
  repeat' apply And.intro
  all_goals (as_aux_lemma => kernel_rfl)
theorem q3 : Tryd.f3.isInstance Tryd.pinned.checked.prog Rows.fnAdvanceImportTrackerMatchesCaseTableRow.origin Rows.fnAdvanceImportTrackerMatchesCaseTableRow.targs := of_decide_eq_true (by kernel_rfl)
theorem q4 : Tryd.f3.isWrapper Tryd.pinned.checked.prog Rows.fnAdvanceImportTrackerMatchesCaseTableRow.wrapper Rows.fnAdvanceImportTrackerMatchesCaseTableRow.mainSum := by
  unfold Func.isWrapper; first | (rw [if_pos (by decide +kernel)]; kernel_rfl) | (rw [if_neg (by decide +kernel)]; exact ⟨rfl, rfl⟩)
set_option maxRecDepth 100000 in
theorem lifted (os : Os) (started : os.Started) (H : Type) (enc : TypeId × Value → H) (F : Stop.Interp) :
    ReturnsInHanded {} Tryd.checked os 3 .any ((OpenSpec.ofChange Rows.fnAdvanceImportTrackerMatchesCaseTableSpec).preRow enc Tryd.prog Tryd.f3 Rows.fnAdvanceImportTrackerMatchesCaseTableRow.domain false Rows.fnAdvanceImportTrackerMatchesCaseTableRow.laid) (((OpenSpec.ofChange Rows.fnAdvanceImportTrackerMatchesCaseTableSpec).at F).post enc Tryd.prog Tryd.f3 false true false false) := by
  refine returnsInHanded_of_row (C := Tryd.checked) (s := OpenSpec.ofChange Rows.fnAdvanceImportTrackerMatchesCaseTableSpec) own started l1 Tryd.func3
    (witness_row_atRef (enc := enc) (C := Tryd.checked) false (laidWorld os) #[.string ByteArray.empty, .bool false, .bool false, .bool false, .bool false, .int .i32 0, .bool false, .bool false, .int .u8 0, .slice none 0 0, .bool false, .bool false] rfl (l2 os) (l3 os) (l4 os) (witness_row os enc)) ?_
  intro W base args ds gs before hval hW _ _ _ hL _ _
  exact contract H enc W base args ds gs before hval hW hL

theorem said : Rows.FnAdvanceImportTrackerMatchesCaseTableSaid :=
  OpenClaim.holds_of_cond 3 Tryd.f3 rfl rfl rfl rfl rfl rfl rfl ⟨rfl, rfl, rfl, rfl, rfl⟩ rfl rfl rfl rfl rfl q1 Tryd.func3 q2 q3 q4
    (fun os started H enc _ F => by rw [OpenClaim.pre_eq_preRow]; exact lifted os started H enc F)

/-- No parameter wants a stand-in; the program's own looks are off: what the card asks. -/
theorem plain7 (f : FuncId) (fn : Func) (hf : Tryd.pinned.checked.prog.funcNamed Rows.fnAdvanceImportTrackerMatchesCaseTableRow.func = some f) (hfn : Tryd.pinned.checked.prog.funcs[f]? = some fn) :
    true = Tryd.pinned.checked.prog.looks [] ∧ ∀ (j : Nat) t, fn.params[j]? = some t → Tryd.pinned.checked.prog.wantsStandIn t = false := by
  obtain rfl : f = 3 := Option.some.inj ((show Tryd.prog.funcNamed Rows.fnAdvanceImportTrackerMatchesCaseTableRow.func = some 3 by kernel_rfl).symm.trans hf) |>.symm
  obtain rfl : fn = Tryd.f3 := (Option.some.inj (Tryd.func3.symm.trans hfn)).symm
  refine ⟨by kernel_rfl, fun j t ht => ?_⟩
  rw [Tryd.params3] at ht
  have hm := Array.mem_of_getElem? ht
  have : t = 9 ∨ t = 4 ∨ t = 21 ∨ t = 4 ∨ t = 5 ∨ t = 22 ∨ t = 4 := by simpa using hm
  rcases this with rfl | rfl | rfl | rfl | rfl | rfl | rfl
  · exact (show Tryd.prog.wantsStandIn 9 = false by kernel_rfl)
  · exact (show Tryd.prog.wantsStandIn 4 = false by kernel_rfl)
  · exact (show Tryd.prog.wantsStandIn 21 = false by kernel_rfl)
  · exact (show Tryd.prog.wantsStandIn 4 = false by kernel_rfl)
  · exact (show Tryd.prog.wantsStandIn 5 = false by kernel_rfl)
  · exact (show Tryd.prog.wantsStandIn 22 = false by kernel_rfl)
  · exact (show Tryd.prog.wantsStandIn 4 = false by kernel_rfl)

/-- the statement: the tied card -/
theorem proved : Rows.FnAdvanceImportTrackerMatchesCaseTableCardSaid :=
  Claim7.holds_tied_plain_at .later [] _ _ _ _ said (fun _ h => by cases h) (by kernel_rfl) (fun _ h => by cases h) fnAdvanceImportTrackerMatchesCaseTable_row_tie rfl ⟨rfl, rfl⟩ (by kernel_rfl) rfl plain7 (by kernel_rfl)
#print axioms proved
end Go.Proofs.YtgollalliomhfaaDoor.fnAdvanceImportTrackerMatchesCaseTable
