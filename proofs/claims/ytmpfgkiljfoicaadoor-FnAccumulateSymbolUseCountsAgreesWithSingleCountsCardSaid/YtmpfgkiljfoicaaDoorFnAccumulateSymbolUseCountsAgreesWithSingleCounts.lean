/-
  For every slice of kinds, of flags, of nested slots, of links and of uses, any slot count and any stable index, the law FnAccumulateSymbolUseCountsAgreesWithSingleCounts returns true. The variable ast.InvalidRef is laid with its datum (tied card).
-/
import Derived.Test.YtmpfgkiljfoicaaDoorCards
import Derived.Test.YtmpfgkiljfoicaaDoorTie
import Derived.WalkKit
import Derived.ProofKit
import Derived.OpenShut
import Derived.ShutString
import Derived.ChangeOld
import Derived.Below
import Derived.Deep.DeepHandedRow
import Derived.Deep.DeepWitnessRowRef
import Derived.Lib.LaidIn
import Derived.Lib.LaidSlice
import Derived.Lib.LaidU8
import Derived.PinnedBridge
import Derived.OpenVars
import Derived.Test.YtmpfgkiljfoicaaDoorLw
namespace Go.Proofs.YtmpfgkiljfoicaaDoor.fnAccumulateSymbolUseCountsAgreesWithSingleCounts
open Go.ChangeShapes Go.WideShapes Go.ChangeAt Go.RowKit
open Go.ChangeMaps (open_string shut_string)
set_option linter.unusedVariables false

theorem own : ownKnob Tryd.prog.godebug = none := by kernel_rfl
theorem laidOut : laidOutB Tryd.prog = true := by kernel_rfl

/-- WHAT THE WALK IS TOLD OF A SLICE OF INTEGERS THAT CAME IN: it is nil; or it leads to a row of 'cap' cells, the numbers 'zs' (the first 'len' are its elements, the rest its spare room), each fitting its kind. -/
def IsRow (k : IntKind) (w : World) (a : Option Addr) (len cap : Nat) (zs : List Int) : Prop :=
  (a = none ∧ len = 0 ∧ cap = 0 ∧ zs = []) ∨
  ∃ x, a = some x ∧ len ≤ cap ∧ cap ≤ maxLen ∧ zs.length = cap ∧ (∀ i, i < zs.length → w.cell? (x.add i) = some (.int k (zs.getD i 0))) ∧ ∀ n ∈ zs, (Lit.int k n).wf = true

theorem row_in {k : IntKind} {w : World} {a : Option Addr} {len cap : Nat} {z : List Int} (h : IsRow k w a len cap z) : ∃ zs : List Int, zs.length = len ∧ In k w a zs ∧ zs.length ≤ maxLen ∧ ∀ i, i < zs.length → (Lit.int k (nth zs i)).wf = true := by
  rcases h with ⟨rfl, rfl, rfl, rfl⟩ | ⟨x, rfl, h1, h2, h3, h4, h5⟩
  · exact ⟨[], rfl, .inl rfl, by simp, fun i h => by simp at h⟩
  · have hl : (z.take len).length = len := by rw [List.length_take]; omega
    refine ⟨z.take len, hl, ?_, by omega, fun i hi => ?_⟩
    · by_cases h0 : len = 0
      · subst h0; exact .inl (by simp)
      · obtain ⟨b, off, spot⟩ := x
        have hc := h4 0 (by omega)
        have hspot : spot = none := by simpa [Addr.add] using World.cell?_spot hc
        subst hspot
        refine .inr ⟨b, off, rfl, World.block_lt_of_cell? w _ hc, fun i hi => ?_⟩
        have := h4 i (by omega)
        have e : (⟨b, off, none⟩ : Addr).add i = ⟨b, off + i, none⟩ := by unfold Addr.add; split <;> simp_all
        rw [e] at this
        rw [this, nth_take z len i (by omega)]; rfl
    · rw [nth_take z len i (by omega)]
      exact h5 _ (nth_mem z i (by omega))
theorem wf8 {zs : List Int} (h : ∀ i, i < zs.length → (Lit.int .u8 (nth zs i)).wf = true) : ∀ i, i < zs.length → 0 ≤ nth zs i ∧ nth zs i < 256 := fun i hi => by
  have := h i hi
  simp [Lit.wf, IntKind.min, IntKind.max, IntKind.bits, IntKind.signed] at this
  omega
theorem wf32 {zs : List Int} (h : ∀ i, i < zs.length → (Lit.int .u32 (nth zs i)).wf = true) : ∀ i, i < zs.length → 0 ≤ nth zs i ∧ nth zs i < 4294967296 := fun i hi => by
  have := h i hi
  simp [Lit.wf, IntKind.min, IntKind.max, IntKind.bits, IntKind.signed] at this
  omega
theorem every {zs : List Int} {b : Int} (hb : 0 < b) (h : ∀ i, i < zs.length → 0 ≤ nth zs i ∧ nth zs i < b) : ∀ i, 0 ≤ nth zs i ∧ nth zs i < b := fun i => by
  by_cases e : i < zs.length
  · exact h i e
  · simp [nth, List.getD, show zs.length ≤ i by omega, hb]
theorem lit32 {x : Int} (h : (Lit.int .u32 x).wf = true) : 0 ≤ x ∧ x < 4294967296 := by
  simp [Lit.wf, IntKind.min, IntKind.max, IntKind.bits, IntKind.signed] at h
  omega
theorem iv_of {w : World} (hL : laidMetH Tryd.prog Rows.fnAccumulateSymbolUseCountsAgreesWithSingleCountsRow.laid w) : Iv w := by
  obtain ⟨g, t, cs, fuel, p, hg, hty, hvar, hr⟩ := Lib.laidMet.reads hL (.head _)
  obtain rfl : 0 = g := Option.some.inj ((show Tryd.prog.globalNamed "github.com/evanw/esbuild/internal/ast.InvalidRef" = some 0 by kernel_rfl).symm.trans hg)
  obtain rfl : 30 = t := Option.some.inj ((show (Tryd.prog.globals[0]?).map (·.type) = some 30 by kernel_rfl).symm.trans hty)
  have h := Lib.ints_of_struct (zs := [4294967295, 4294967295]) (k := .u32) Tryd.underlying30 (by
    intro i f hf
    match i, hf with
    | 0, hf => cases hf; exact ⟨Tryd.underlying24, rfl, by kernel_rfl⟩
    | 1, hf => cases hf; exact ⟨Tryd.underlying24, rfl, by kernel_rfl⟩
    | i + 2, hf => simp at hf) (by kernel_rfl) hr
  refine ⟨?_, ?_⟩
  · rw [World.var?_cell hg hvar 0, ← Array.getElem?_toList, h]; rfl
  · rw [World.var?_cell hg hvar 1, ← Array.getElem?_toList, h]; rfl
theorem nn_of {x : Int} (h : (Lit.int .u32 x).wf = true) : 0 ≤ x := by
  simp [Lit.wf, IntKind.min, IntKind.max, IntKind.bits, IntKind.signed] at h
  omega

theorem walk (a0 : Option Addr) (len0 cap0 : Nat) (z0 : List Int) (a1 : Option Addr) (len1 cap1 : Nat) (z1 : List Int) (a2 : Option Addr) (len2 cap2 : Nat) (z2 : List Int) (a3 : Int) (a4 : Option Addr) (len4 cap4 : Nat) (z4 : List Int) (a5 : Option Addr) (len5 cap5 : Nat) (z5 : List Int) (a6 : Int) (w : World) (w0 : IsRow .u8 w a0 len0 cap0 z0) (w1 : IsRow .u8 w a1 len1 cap1 z1) (w2 : IsRow .u32 w a2 len2 cap2 z2) (w3 : (Lit.int .u32 a3).wf = true) (w4 : IsRow .u32 w a4 len4 cap4 z4) (w5 : IsRow .u32 w a5 len5 cap5 z5) (w6 : (Lit.int .u32 a6).wf = true) (hL : laidMetH Tryd.prog Rows.fnAccumulateSymbolUseCountsAgreesWithSingleCountsRow.laid w) :
    Calls Tryd.prog 3 #[.slice a0 len0 cap0, .slice a1 len1 cap1, .slice a2 len2 cap2, .int .u32 a3, .slice a4 len4 cap4, .slice a5 len5 cap5, .int .u32 a6] w fun e w' => e = .returned (.bool true) ∧ Below w.heap.size w w' := by
  obtain ⟨ks, k1, k2, k3, k4⟩ := row_in w0
  obtain ⟨fs, f1, f2, f3, f4⟩ := row_in w1
  obtain ⟨ns, n1, n2, n3, n4⟩ := row_in w2
  obtain ⟨ls, l1, l2, l3, l4⟩ := row_in w4
  obtain ⟨us, u1, u2, u3, u4⟩ := row_in w5
  exact law_any a0 a1 a2 a4 a5 len0 len1 len2 len4 len5 cap0 cap1 cap2 cap4 cap5 a3 a6 ks fs ns ls us k1 f1 n1 l1 u1 (wf8 k4) (every (by decide) (wf8 f4)) (every (by decide) (wf32 n4)) (fun i hi => (wf32 l4 i hi).1) (lit32 w6) (lit32 w3).1 w ⟨⟨k2, f2, n2, l2⟩, u2⟩ (iv_of hL)

open Go.Lib
set_option maxRecDepth 100000 in
theorem contract (H : Type) (enc : TypeId × Value → H) (W : World) (base : Nat) (args : Array Value) (ds gs : List (DataW H)) (before : List MemPlace)
    (hval : ∀ (j : Nat) t v, Tryd.f3.params[j]? = some t → args[j]? = some v → Value.okWide Tryd.prog W .any base t v)
    (hW : DataW.Whole enc Tryd.prog Tryd.f3.params.toList Rows.fnAccumulateSymbolUseCountsAgreesWithSingleCountsSpec.vars false W args.toList ds gs before) (hL : laidMetH Tryd.prog Rows.fnAccumulateSymbolUseCountsAgreesWithSingleCountsRow.laid W) :
    Calls Tryd.prog 3 args W fun e W' => ∃ v, e = .returned v ∧ Rows.fnAccumulateSymbolUseCountsAgreesWithSingleCountsSpec.post enc Tryd.prog Tryd.f3 false true false false W args v W' := by
  have hW' := hW
  obtain ⟨p, q, hA0, hV, rfl, hfz, hnd⟩ := hW
  have hA : DataW.TrodAll enc Tryd.prog W 0 (fun _ => true) true Tryd.f3.params.toList args.toList ds p := hA0
  rw [Tryd.params3] at hA hval
  obtain ⟨v0, vs0, d0, ds0, p0, q0, hargs, rfl, rfl, h0, r0⟩ := trodAll_cons hA
  obtain ⟨v1, vs1, d1, ds1, p1, q1, rfl, rfl, rfl, h1, r1⟩ := trodAll_cons r0
  obtain ⟨v2, vs2, d2, ds2, p2, q2, rfl, rfl, rfl, h2, r2⟩ := trodAll_cons r1
  obtain ⟨v3, vs3, d3, ds3, p3, q3, rfl, rfl, rfl, h3, r3⟩ := trodAll_cons r2
  obtain ⟨v4, vs4, d4, ds4, p4, q4, rfl, rfl, rfl, h4, r4⟩ := trodAll_cons r3
  obtain ⟨v5, vs5, d5, ds5, p5, q5, rfl, rfl, rfl, h5, r5⟩ := trodAll_cons r4
  obtain ⟨v6, vs6, d6, ds6, p6, q6, rfl, rfl, rfl, h6, r6⟩ := trodAll_cons r5
  obtain ⟨rfl, rfl, rfl⟩ := trodAll_nil r6
  obtain rfl : args = #[v0, v1, v2, v3, v4, v5, v6] := by cases args; simp_all
  obtain ⟨g1, rfl⟩ : ∃ g1, gs = [g1] := by
    clear hW'
    rcases gs with _ | ⟨x1, gs⟩
    · exact hV.elim
    obtain ⟨_, _, _, _, _, q, _, _, _, _, hV, _⟩ := hV
    rcases gs with _ | ⟨y, gs⟩
    · exact ⟨x1, rfl⟩
    · exact hV.elim
  obtain ⟨a0, len0, cap0, rfl⟩ := okWide_slice Tryd.underlying22 (hval 0 22 v0 rfl rfl)
  have k0 := h0
  have lt0 : ∀ x ∈ p0, x.block < W.heap.size := by obtain ⟨m, hm⟩ := k0; exact DataW.trod_lt m _ _ _ hm
  obtain ⟨z0, w0⟩ : ∃ zs, IsRow .u8 W a0 len0 cap0 zs := by
    obtain ⟨fuel, hf⟩ := h0
    rcases open_ints Tryd.underlying22 Tryd.underlying5 (by kernel_rfl) hf with ⟨hcs, _⟩ | ⟨x, l, c, zs, hcs, _, hl, hm, hz, _, hcell, hwz⟩
    · simp [Value.cells] at hcs
      obtain ⟨rfl, rfl, rfl⟩ := hcs
      exact ⟨[], .inl ⟨rfl, rfl, rfl, rfl⟩⟩
    · simp [Value.cells] at hcs
      obtain ⟨rfl, rfl, rfl⟩ := hcs
      exact ⟨zs, .inr ⟨_, rfl, hl, hm, by simpa using hz, hcell, hwz⟩⟩
  obtain ⟨a1, len1, cap1, rfl⟩ := okWide_slice Tryd.underlying22 (hval 1 22 v1 rfl rfl)
  have k1 := h1
  have lt1 : ∀ x ∈ p1, x.block < W.heap.size := by obtain ⟨m, hm⟩ := k1; exact DataW.trod_lt m _ _ _ hm
  obtain ⟨z1, w1⟩ : ∃ zs, IsRow .u8 W a1 len1 cap1 zs := by
    obtain ⟨fuel, hf⟩ := h1
    rcases open_ints Tryd.underlying22 Tryd.underlying5 (by kernel_rfl) hf with ⟨hcs, _⟩ | ⟨x, l, c, zs, hcs, _, hl, hm, hz, _, hcell, hwz⟩
    · simp [Value.cells] at hcs
      obtain ⟨rfl, rfl, rfl⟩ := hcs
      exact ⟨[], .inl ⟨rfl, rfl, rfl, rfl⟩⟩
    · simp [Value.cells] at hcs
      obtain ⟨rfl, rfl, rfl⟩ := hcs
      exact ⟨zs, .inr ⟨_, rfl, hl, hm, by simpa using hz, hcell, hwz⟩⟩
  obtain ⟨a2, len2, cap2, rfl⟩ := okWide_slice Tryd.underlying23 (hval 2 23 v2 rfl rfl)
  have k2 := h2
  have lt2 : ∀ x ∈ p2, x.block < W.heap.size := by obtain ⟨m, hm⟩ := k2; exact DataW.trod_lt m _ _ _ hm
  obtain ⟨z2, w2⟩ : ∃ zs, IsRow .u32 W a2 len2 cap2 zs := by
    obtain ⟨fuel, hf⟩ := h2
    rcases open_ints Tryd.underlying23 Tryd.underlying24 (by kernel_rfl) hf with ⟨hcs, _⟩ | ⟨x, l, c, zs, hcs, _, hl, hm, hz, _, hcell, hwz⟩
    · simp [Value.cells] at hcs
      obtain ⟨rfl, rfl, rfl⟩ := hcs
      exact ⟨[], .inl ⟨rfl, rfl, rfl, rfl⟩⟩
    · simp [Value.cells] at hcs
      obtain ⟨rfl, rfl, rfl⟩ := hcs
      exact ⟨zs, .inr ⟨_, rfl, hl, hm, by simpa using hz, hcell, hwz⟩⟩
  obtain ⟨a3, rfl, rfl, rfl, w3⟩ := open_int Tryd.underlying24 (hval 3 24 v3 rfl rfl) h3
  obtain ⟨a4, len4, cap4, rfl⟩ := okWide_slice Tryd.underlying23 (hval 4 23 v4 rfl rfl)
  have k4 := h4
  have lt4 : ∀ x ∈ p4, x.block < W.heap.size := by obtain ⟨m, hm⟩ := k4; exact DataW.trod_lt m _ _ _ hm
  obtain ⟨z4, w4⟩ : ∃ zs, IsRow .u32 W a4 len4 cap4 zs := by
    obtain ⟨fuel, hf⟩ := h4
    rcases open_ints Tryd.underlying23 Tryd.underlying24 (by kernel_rfl) hf with ⟨hcs, _⟩ | ⟨x, l, c, zs, hcs, _, hl, hm, hz, _, hcell, hwz⟩
    · simp [Value.cells] at hcs
      obtain ⟨rfl, rfl, rfl⟩ := hcs
      exact ⟨[], .inl ⟨rfl, rfl, rfl, rfl⟩⟩
    · simp [Value.cells] at hcs
      obtain ⟨rfl, rfl, rfl⟩ := hcs
      exact ⟨zs, .inr ⟨_, rfl, hl, hm, by simpa using hz, hcell, hwz⟩⟩
  obtain ⟨a5, len5, cap5, rfl⟩ := okWide_slice Tryd.underlying23 (hval 5 23 v5 rfl rfl)
  have k5 := h5
  have lt5 : ∀ x ∈ p5, x.block < W.heap.size := by obtain ⟨m, hm⟩ := k5; exact DataW.trod_lt m _ _ _ hm
  obtain ⟨z5, w5⟩ : ∃ zs, IsRow .u32 W a5 len5 cap5 zs := by
    obtain ⟨fuel, hf⟩ := h5
    rcases open_ints Tryd.underlying23 Tryd.underlying24 (by kernel_rfl) hf with ⟨hcs, _⟩ | ⟨x, l, c, zs, hcs, _, hl, hm, hz, _, hcell, hwz⟩
    · simp [Value.cells] at hcs
      obtain ⟨rfl, rfl, rfl⟩ := hcs
      exact ⟨[], .inl ⟨rfl, rfl, rfl, rfl⟩⟩
    · simp [Value.cells] at hcs
      obtain ⟨rfl, rfl, rfl⟩ := hcs
      exact ⟨zs, .inr ⟨_, rfl, hl, hm, by simpa using hz, hcell, hwz⟩⟩
  obtain ⟨a6, rfl, rfl, rfl, w6⟩ := open_int Tryd.underlying24 (hval 6 24 v6 rfl rfl) h6
  clear hA0
  refine (walk a0 len0 cap0 z0 a1 len1 cap1 z1 a2 len2 cap2 z2 a3 a4 len4 cap4 z4 a5 len5 cap5 z5 a6 W w0 w1 w2 w3 w4 w5 w6 hL).mono fun e W' ⟨he, bel⟩ => ?_
  subst he
  exact ⟨_, rfl, _, _, _, [], _, q, hW', trodAll_mk1 (shut_bool Tryd.underlying4 _), (trodAll_cons_mk (Below.trod laidOut (by kernel_rfl) (of_decide_eq_true (by kernel_rfl)) k0 bel lt0) (trodAll_cons_mk (Below.trod laidOut (by kernel_rfl) (of_decide_eq_true (by kernel_rfl)) k1 bel lt1) (trodAll_cons_mk (Below.trod laidOut (by kernel_rfl) (of_decide_eq_true (by kernel_rfl)) k2 bel lt2) (trodAll_cons_mk (shut_int Tryd.underlying24 w3) (trodAll_cons_mk (Below.trod laidOut (by kernel_rfl) (of_decide_eq_true (by kernel_rfl)) k4 bel lt4) (trodAll_cons_mk (Below.trod laidOut (by kernel_rfl) (of_decide_eq_true (by kernel_rfl)) k5 bel lt5) (trodAll_cons_mk (shut_int Tryd.underlying24 w6) trodAll_mk0))))))), Below.trodVars laidOut bel (by kernel_rfl) hV, bel.frame _, fun h => by cases h⟩


/-- a world for the witness: the settled one, the listed variables holding what their initialisers lay -/
noncomputable def laidWorld (os : Os) : World :=
  let w0 := World.holding Tryd.prog os ⟨#[], #[], []⟩
  let put (h : Array Obj) (g : Nat) (cs : Array Value) : Array Obj := h.modify g fun
    | .cells _ t frozen => .cells cs t frozen
    | o => o
  let h1 := put w0.heap 0 #[.int .u32 4294967295, .int .u32 4294967295]
  { w0 with heap := h1 }


set_option maxRecDepth 1000000 in
theorem piece0 (os : Os) (args : Array Value) : LaidIn Tryd.prog ((laidWorld os).forCall (fun _ _ => 0) ⟨#[], args, []⟩).memory [("github.com/evanw/esbuild/internal/ast.InvalidRef", Rows.laid_github_com_evanw_esbuild_internal_ast_InvalidRef)] [0] :=
  LaidIn.of_run [0] 8 (by kernel_rfl) (by kernel_rfl) (by kernel_rfl) (by kernel_rfl)
set_option maxRecDepth 1000000 in
theorem laid_met (os : Os) (args : Array Value) : laidMet Tryd.prog Rows.fnAccumulateSymbolUseCountsAgreesWithSingleCountsRow.laid ((laidWorld os).forCall (fun _ _ => 0) ⟨#[], args, []⟩).memory :=
  (piece0 os args).met
theorem witness_row (os : Os) {H : Type} (enc : TypeId × Value → H) :
    (OpenSpec.ofChange Rows.fnAccumulateSymbolUseCountsAgreesWithSingleCountsSpec).preRow enc Tryd.prog Tryd.f3 Rows.fnAccumulateSymbolUseCountsAgreesWithSingleCountsRow.domain false Rows.fnAccumulateSymbolUseCountsAgreesWithSingleCountsRow.laid ((laidWorld os).forCall (fun _ _ => 0) ⟨#[], #[.slice none 0 0, .slice none 0 0, .slice none 0 0, .int .u32 0, .slice none 0 0, .slice none 0 0, .int .u32 0], []⟩).memory #[.slice none 0 0, .slice none 0 0, .slice none 0 0, .int .u32 0, .slice none 0 0, .slice none 0 0, .int .u32 0] := by
  have hw : (DataW.whole enc Tryd.prog ((laidWorld os).forCall (fun _ _ => 0) ⟨#[], #[.slice none 0 0, .slice none 0 0, .slice none 0 0, .int .u32 0, .slice none 0 0, .slice none 0 0, .int .u32 0], []⟩).memory Tryd.f3.params.toList Rows.fnAccumulateSymbolUseCountsAgreesWithSingleCountsSpec.vars false (#[.slice none 0 0, .slice none 0 0, .slice none 0 0, .int .u32 0, .slice none 0 0, .slice none 0 0, .int .u32 0] : Array Value).toList 8).map (fun x => (x.1, x.2.1)) =
      some ([.nil, .nil, .nil, .lit (.int .u32 0), .nil, .nil, .lit (.int .u32 0)], [Rows.laid_github_com_evanw_esbuild_internal_ast_InvalidRef]) := by kernel_rfl
  obtain ⟨⟨x1, x2, x3⟩, hx, hx1⟩ := Option.map_eq_some_iff.1 hw
  simp only [Prod.mk.injEq] at hx1
  obtain ⟨rfl, rfl⟩ := hx1
  exact OpenSpec.preRow_of_cond 8 hx (by kernel_rfl) (fun k hk => by cases hk) (by kernel_rfl) (laid_met os _)

set_option maxRecDepth 100000 in
theorem lifted (os : Os) (started : os.Started) (H : Type) (enc : TypeId × Value → H) (F : Stop.Interp) :
    ReturnsInHanded {} Tryd.checked os 3 .any ((OpenSpec.ofChange Rows.fnAccumulateSymbolUseCountsAgreesWithSingleCountsSpec).preRow enc Tryd.prog Tryd.f3 Rows.fnAccumulateSymbolUseCountsAgreesWithSingleCountsRow.domain false Rows.fnAccumulateSymbolUseCountsAgreesWithSingleCountsRow.laid) (((OpenSpec.ofChange Rows.fnAccumulateSymbolUseCountsAgreesWithSingleCountsSpec).at F).post enc Tryd.prog Tryd.f3 false true false false) := by
  refine returnsInHanded_of_row (C := Tryd.checked) (s := OpenSpec.ofChange Rows.fnAccumulateSymbolUseCountsAgreesWithSingleCountsSpec) own started (by kernel_rfl) Tryd.func3
    (witness_row_atRef (enc := enc) (C := Tryd.checked) false (laidWorld os) #[.slice none 0 0, .slice none 0 0, .slice none 0 0, .int .u32 0, .slice none 0 0, .slice none 0 0, .int .u32 0] rfl (by kernel_rfl) (by kernel_rfl) (by kernel_rfl) (witness_row os enc)) ?_
  intro W base args ds gs before hval hW _ _ _ hL _ _
  exact contract H enc W base args ds gs before hval hW hL

theorem said : Rows.FnAccumulateSymbolUseCountsAgreesWithSingleCountsSaid :=
  OpenClaim.holds_of_cond 3 Tryd.f3 rfl rfl rfl rfl rfl rfl rfl ⟨rfl, rfl, rfl, rfl, rfl⟩ rfl rfl rfl rfl rfl (by kernel_rfl) Tryd.func3 (by kernel_rfl)
    (of_decide_eq_true (by kernel_rfl)) (by unfold Func.isWrapper; first | (rw [if_pos (by decide +kernel)]; kernel_rfl) | (rw [if_neg (by decide +kernel)]; exact ⟨rfl, rfl⟩))
    (fun os started H enc _ F => by rw [OpenClaim.pre_eq_preRow]; exact lifted os started H enc F)

/-- No parameter wants a stand-in; the program's own looks are off: what the card asks. -/
theorem plain7 (f : FuncId) (fn : Func) (hf : Tryd.pinned.checked.prog.funcNamed Rows.fnAccumulateSymbolUseCountsAgreesWithSingleCountsRow.func = some f) (hfn : Tryd.pinned.checked.prog.funcs[f]? = some fn) :
    false = Tryd.pinned.checked.prog.looks [] ∧ ∀ (j : Nat) t, fn.params[j]? = some t → Tryd.pinned.checked.prog.wantsStandIn t = false := by
  obtain rfl : f = 3 := Option.some.inj ((show Tryd.prog.funcNamed Rows.fnAccumulateSymbolUseCountsAgreesWithSingleCountsRow.func = some 3 by kernel_rfl).symm.trans hf) |>.symm
  obtain rfl : fn = Tryd.f3 := (Option.some.inj (Tryd.func3.symm.trans hfn)).symm
  refine ⟨by kernel_rfl, fun j t ht => ?_⟩
  rw [Tryd.params3] at ht
  have hm := Array.mem_of_getElem? ht
  have : t = 22 ∨ t = 23 ∨ t = 24 ∨ t = 23 ∨ t = 24 := by simpa using hm
  rcases this with rfl | rfl | rfl | rfl | rfl
  · exact (show Tryd.prog.wantsStandIn 22 = false by kernel_rfl)
  · exact (show Tryd.prog.wantsStandIn 23 = false by kernel_rfl)
  · exact (show Tryd.prog.wantsStandIn 24 = false by kernel_rfl)
  · exact (show Tryd.prog.wantsStandIn 23 = false by kernel_rfl)
  · exact (show Tryd.prog.wantsStandIn 24 = false by kernel_rfl)

/-- the statement: the tied card -/
theorem proved : Rows.FnAccumulateSymbolUseCountsAgreesWithSingleCountsCardSaid :=
  Claim7.holds_tied_plain_at .later [] _ _ _ _ said (fun _ h => by cases h) (by kernel_rfl) (fun _ h => by cases h) fnAccumulateSymbolUseCountsAgreesWithSingleCounts_row_tie rfl ⟨rfl, rfl⟩ (by kernel_rfl) rfl plain7 (by kernel_rfl)
#print axioms proved
end Go.Proofs.YtmpfgkiljfoicaaDoor.fnAccumulateSymbolUseCountsAgreesWithSingleCounts
