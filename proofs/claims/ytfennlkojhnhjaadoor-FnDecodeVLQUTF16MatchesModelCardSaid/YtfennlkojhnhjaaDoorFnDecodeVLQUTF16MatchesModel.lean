/-
  For every slice of units the law FnDecodeVLQUTF16MatchesModel returns true: DecodeVLQUTF16 refuses exactly where the low-byte digits do not reach one without the continuation bit, and else answers the count of units taken and the value of the first seven digits cut to 32 bits, floor of the half, negated where the low bit stands (beyond its length bound it returns true too). The card ties the variable base64 to the program's text.
-/
import Derived.Test.YtfennlkojhnhjaaDoorCards
import Derived.Test.YtfennlkojhnhjaaDoorTie
import Derived.WalkKit
import Derived.ProofKit
import Derived.OpenShut
import Derived.ShutString
import Derived.ChangeOld
import Derived.Below
import Derived.Deep.DeepHandedRow
import Derived.Deep.DeepWitnessRowRef
import Derived.Lib.LaidIn
import Derived.Lib.LaidSlice
import Derived.Lib.LaidU8
import Derived.PinnedBridge
import Derived.OpenVars
import Derived.Lib.LaidPrint
import Derived.Test.YtfennlkojhnhjaaDoorDec
namespace Go.Proofs.YtfennlkojhnhjaaDoor.fnDecodeVLQUTF16MatchesModel
open Go.ChangeShapes Go.WideShapes Go.ChangeAt Go.RowKit
open Go.ChangeMaps (open_string shut_string)
set_option linter.unusedVariables false

theorem own : ownKnob Tryd.prog.godebug = none := by kernel_rfl
theorem laidOut : laidOutB Tryd.prog = true := by kernel_rfl

/-- WHAT THE WALK IS TOLD OF A SLICE OF INTEGERS THAT CAME IN: it is nil; or it leads to a row of 'cap' cells, the numbers 'zs' (the first 'len' are its elements, the rest its spare room), each fitting its kind. -/
def IsRow (k : IntKind) (w : World) (a : Option Addr) (len cap : Nat) (zs : List Int) : Prop :=
  (a = none ∧ len = 0 ∧ cap = 0 ∧ zs = []) ∨
  ∃ x, a = some x ∧ len ≤ cap ∧ cap ≤ maxLen ∧ zs.length = cap ∧ (∀ i, i < zs.length → w.cell? (x.add i) = some (.int k (zs.getD i 0))) ∧ ∀ n ∈ zs, (Lit.int k n).wf = true

theorem row_in {w : World} {a : Option Addr} {len cap : Nat} {z : List Int} (h : IsRow .u16 w a len cap z) : ∃ zs : List Int, zs.length = len ∧ In .u16 w a zs ∧ zs.length ≤ maxLen ∧ ∀ i, i < zs.length → 0 ≤ nth zs i ∧ nth zs i ≤ 65535 := by
  rcases h with ⟨rfl, rfl, rfl, rfl⟩ | ⟨x, rfl, h1, h2, h3, h4, h5⟩
  · exact ⟨[], rfl, .inl rfl, by simp, fun i h => by simp at h⟩
  · have hl : (z.take len).length = len := by rw [List.length_take]; omega
    refine ⟨z.take len, hl, ?_, by omega, fun i hi => ?_⟩
    · by_cases h0 : len = 0
      · subst h0; exact .inl (by simp)
      · obtain ⟨b, off, spot⟩ := x
        have hc := h4 0 (by omega)
        have hspot : spot = none := by simpa [Addr.add] using World.cell?_spot hc
        subst hspot
        refine .inr ⟨b, off, rfl, World.block_lt_of_cell? w _ hc, fun i hi => ?_⟩
        have := h4 i (by omega)
        have e : (⟨b, off, none⟩ : Addr).add i = ⟨b, off + i, none⟩ := by unfold Addr.add; split <;> simp_all
        rw [e] at this
        rw [this, nth_take z len i (by omega)]; rfl
    · rw [nth_take z len i (by omega)]
      have := h5 _ (nth_mem z i (by omega))
      simp [Lit.wf, IntKind.min, IntKind.max, IntKind.signed, IntKind.bits] at this
      omega
theorem bytes_yes (a0 : Option Addr) (n0 c0 : Nat) (w : World) (h : n0 ≤ 1048576) : Calls Tryd.prog 8 #[.slice a0 n0 c0] w fun e w' => e = .returned (.bool true) ∧ w' = w := by
  go_enter Tryd.func8, Tryd.ntmps8
  go_wp2
  go_ret
  exact ⟨rfl, rfl⟩
theorem bytes_no (a0 : Option Addr) (n0 c0 : Nat) (w : World) (h : 1048576 < n0) : Calls Tryd.prog 8 #[.slice a0 n0 c0] w fun e w' => e = .returned (.bool false) ∧ w' = w := by
  go_enter Tryd.func8, Tryd.ntmps8
  go_wp2
  go_ret
  exact ⟨rfl, rfl⟩
theorem bad1 (a0 : Option Addr) (n0 c0 : Nat) (w : World) (h : 1048576 < n0) : Calls Tryd.prog 3 #[.slice a0 n0 c0] w fun e w' => e = .returned (.bool true) ∧ Below w.heap.size w w' := by
  go_enter Tryd.func3, Tryd.ntmps3
  go_wp2_with fail
  refine (bytes_no _ _ _ _ h).mono ?_
  rintro e w1 ⟨rfl, rfl⟩
  go_wp2
  go_ret
  exact ⟨rfl, Below.refl _ _⟩
theorem bad2 (a0 : Option Addr) (n0 c0 : Nat) (w : World) (h : n0 ≤ 1048576) (k : 262144 < n0) : Calls Tryd.prog 3 #[.slice a0 n0 c0] w fun e w' => e = .returned (.bool true) ∧ Below w.heap.size w w' := by
  go_enter Tryd.func3, Tryd.ntmps3
  go_wp2_with fail
  refine (bytes_yes _ _ _ _ h).mono ?_
  rintro e w1 ⟨rfl, rfl⟩
  go_wp2
  go_ret
  exact ⟨rfl, Below.refl _ _⟩
theorem runs_way (a0 : Option Addr) (c0 e : Nat) (zs : List Int) (w : World) (ht : Tab w w.heap.size) (hin : In .u16 w a0 zs) (hb : ∀ i, i < zs.length → 0 ≤ nth zs i ∧ nth zs i ≤ 65535) (hl : zs.length ≤ 262144) (hE : Runs zs e) :
    Calls Tryd.prog 3 #[.slice a0 zs.length c0] w fun e w' => e = .returned (.bool true) ∧ Below w.heap.size w w' := by
  have H := Lib.hid (And.intro ht (And.intro hin (And.intro hb hE)))
  clear ht hin hb hE
  have d0 : decide ((262144 : Int) < (zs.length : Int)) = false := by simp; omega
  go_enter Tryd.func3, Tryd.ntmps3
  go_wp2_with fail
  refine (bytes_yes _ _ _ _ (by omega)).mono ?_
  rintro en w1 ⟨rfl, rfl⟩
  go_wp2_with fail
  refine (copyU_any a0 c0 zs _ H.out.2.1 (by omega)).mono ?_
  rintro en w2 ⟨v2, rfl, ho2, hb2⟩
  obtain ⟨ao, cap, rfl, hin2, _, _⟩ := ho2.form
  have HB2 := Lib.hid (And.intro hb2 hin2)
  have HT2 := Lib.hid ((H.out.1.below hb2))
  clear ho2 hb2 hin2
  go_wp2_with fail
  refine (scan_runs ao cap e zs _ HB2.out.2 (by omega) H.out.2.2.1 H.out.2.2.2).mono ?_
  rintro en w3 ⟨rfl, rfl⟩
  go_wp2_with fail
  refine (dec_runs ao cap e zs _ (HT2.out.mono HB2.out.1.size) HB2.out.2 (by omega) H.out.2.2.1 H.out.2.2.2).mono ?_
  rintro en w4 ⟨rfl, b4⟩
  have HB4 := Lib.hid (below_two HB2.out.1 b4)
  clear b4
  go_wp2
  go_ret
  exact ⟨rfl, HB4.out⟩
theorem ends_way (a0 : Option Addr) (c0 e : Nat) (zs : List Int) (w : World) (ht : Tab w w.heap.size) (hin : In .u16 w a0 zs) (hb : ∀ i, i < zs.length → 0 ≤ nth zs i ∧ nth zs i ≤ 65535) (hl : zs.length ≤ 262144) (hE : Ends zs e) :
    Calls Tryd.prog 3 #[.slice a0 zs.length c0] w fun e w' => e = .returned (.bool true) ∧ Below w.heap.size w w' := by
  have h1 := hE.1
  have h2 := hE.2.1
  have hud : ∀ i, i < e → 0 ≤ ud zs i := fun i hi => by
    rcases (show i = e - 1 ∨ i + 1 < e by omega) with rfl | h
    · exact hE.2.2.2.1
    · have := hE.2.2.1 i h; omega
  have H := Lib.hid (And.intro ht (And.intro hin (And.intro hb (And.intro hE hud))))
  clear ht hin hb hE hud
  have d0 : decide ((262144 : Int) < (zs.length : Int)) = false := by simp; omega
  obtain ⟨t, ht⟩ : ∃ t, t = min e 7 := ⟨_, rfl⟩
  have HT := Lib.hid ht
  have hs : (e ≤ 7 ∧ Hid (t = e)) ∨ (7 < e ∧ Hid (t = 7)) := by
    rcases (show e ≤ 7 ∨ 7 < e by omega) with h | h
    · exact .inl ⟨h, Lib.hid (by omega)⟩
    · exact .inr ⟨h, Lib.hid (by omega)⟩
  have hm := hw_lt zs t 0
  have hm2 : hw zs 0 t < 34359738368 := by
    have h2 : (32 : Nat) ^ t ≤ 32 ^ 7 := Nat.pow_le_pow_right (by decide) (by omega)
    have h3 : (32 : Nat) ^ 7 = 34359738368 := by decide
    omega
  clear ht hm
  have HA := Lib.hid (show acc zs e = IntKind.i32.wrap ((hw zs 0 t : Nat) : Int) by rw [acc, ← HT.out])
  have hsb : -2147483648 ≤ sval (acc zs e) ∧ sval (acc zs e) ≤ 2147483647 := by
    have := acc_bd zs e
    unfold sval; split <;> omega
  have hsw : IntKind.i64.wrap (sval (acc zs e)) = sval (acc zs e) := IntWalk.i64_in _ (by omega)
  rcases hs with ⟨hs, Ht⟩ | ⟨hs, Ht⟩
  all_goals
    go_enter Tryd.func3, Tryd.ntmps3
    go_wp2_with fail
    refine (bytes_yes _ _ _ _ (by omega)).mono ?_
    rintro en w1 ⟨rfl, rfl⟩
    go_wp2_with fail
    refine (copyU_any a0 c0 zs _ H.out.2.1 (by omega)).mono ?_
    rintro en w2 ⟨v2, rfl, ho2, hb2⟩
    obtain ⟨ao, cap, rfl, hin2, _, _⟩ := ho2.form
    have HB2 := Lib.hid (And.intro hb2 hin2)
    have HT2 := Lib.hid ((H.out.1.below hb2))
    clear ho2 hb2 hin2
    go_wp2_with fail
    refine (scan_ends ao cap e zs _ HB2.out.2 (by omega) H.out.2.2.1 H.out.2.2.2.1).mono ?_
    rintro en w3 ⟨rfl, rfl⟩
    go_wp2_with fail
    refine (dec_ends ao cap e zs _ (HT2.out.mono HB2.out.1.size) HB2.out.2 (by omega) H.out.2.2.1 H.out.2.2.2.1).mono ?_
    rintro en w4 ⟨rfl, b4⟩
    have HB4 := Lib.hid (And.intro (below_two HB2.out.1 b4) (HB2.out.2.kept b4))
    clear b4
    go_wp2_with fail
    refine (horner_any ao cap t _ zs _ (by have := Ht.out; omega) HB4.out.2 (by omega) (by have := Ht.out; omega) (by have := Ht.out; omega) H.out.2.2.1 (fun i hi => H.out.2.2.2.2 i (by have := Ht.out; omega))).mono ?_
    rintro en w5 ⟨rfl, rfl⟩
    go_wp2_with fail
    refine (sgn_any _ _ hm2).mono ?_
    rintro en w6 ⟨he, rfl⟩
    rw [← HA.out] at he
    subst he
    go_wp2
    go_ret
    exact ⟨rfl, HB4.out.1⟩

theorem walk (a0 : Option Addr) (len0 cap0 : Nat) (z0 : List Int) (w : World) (w0 : IsRow .u16 w a0 len0 cap0 z0) (hL : laidMetH Tryd.prog Rows.fnDecodeVLQUTF16MatchesModelRow.laid w) :
    Calls Tryd.prog 3 #[.slice a0 len0 cap0] w fun e w' => e = .returned (.bool true) ∧ Below w.heap.size w w' := by
  obtain ⟨zs, hx0, hI0, m0, hb0⟩ := row_in w0
  subst hx0
  have ht : Tab w w.heap.size := Tab.of (Lib.tabSlice_of_reads (P := Tryd.prog) (t := 31) (e := 5) (by kernel_rfl) (by kernel_rfl) Tryd.underlying31 Tryd.underlying5 (by kernel_rfl) (by decide) (Lib.laidMet.reads hL (.head _)))
  by_cases hs : zs.length ≤ 1048576
  rotate_left
  · exact bad1 _ _ _ _ (by omega)
  by_cases hg : zs.length ≤ 262144
  rotate_left
  · exact bad2 _ _ _ _ hs (by omega)
  rcases ends_or zs zs.length 0 (by omega) (by omega) (fun j hj => by omega) with ⟨e, he⟩ | ⟨e, he⟩
  · exact ends_way _ _ e zs w ht hI0 hb0 hg he
  · exact runs_way _ _ e zs w ht hI0 hb0 hg he

open Go.Lib
set_option maxRecDepth 100000 in
theorem contract (H : Type) (enc : TypeId × Value → H) (W : World) (base : Nat) (args : Array Value) (ds gs : List (DataW H)) (before : List MemPlace)
    (hval : ∀ (j : Nat) t v, Tryd.f3.params[j]? = some t → args[j]? = some v → Value.okWide Tryd.prog W .any base t v)
    (hW : DataW.Whole enc Tryd.prog Tryd.f3.params.toList Rows.fnDecodeVLQUTF16MatchesModelSpec.vars false W args.toList ds gs before) (hL : laidMetH Tryd.prog Rows.fnDecodeVLQUTF16MatchesModelRow.laid W) :
    Calls Tryd.prog 3 args W fun e W' => ∃ v, e = .returned v ∧ Rows.fnDecodeVLQUTF16MatchesModelSpec.post enc Tryd.prog Tryd.f3 false true false false W args v W' := by
  have hW' := hW
  obtain ⟨p, q, hA0, hV, rfl, hfz, hnd⟩ := hW
  have hA : DataW.TrodAll enc Tryd.prog W 0 (fun _ => true) true Tryd.f3.params.toList args.toList ds p := hA0
  rw [Tryd.params3] at hA hval
  obtain ⟨v0, vs0, d0, ds0, p0, q0, hargs, rfl, rfl, h0, r0⟩ := trodAll_cons hA
  obtain ⟨rfl, rfl, rfl⟩ := trodAll_nil r0
  obtain rfl : args = #[v0] := by cases args; simp_all
  obtain ⟨g1, rfl⟩ : ∃ g1, gs = [g1] := by
    clear hW'
    rcases gs with _ | ⟨x1, gs⟩
    · exact hV.elim
    obtain ⟨_, _, _, _, _, q, _, _, _, _, hV, _⟩ := hV
    rcases gs with _ | ⟨y, gs⟩
    · exact ⟨x1, rfl⟩
    · exact hV.elim
  obtain ⟨a0, len0, cap0, rfl⟩ := okWide_slice Tryd.underlying22 (hval 0 22 v0 rfl rfl)
  have k0 := h0
  have lt0 : ∀ x ∈ p0, x.block < W.heap.size := by obtain ⟨m, hm⟩ := k0; exact DataW.trod_lt m _ _ _ hm
  obtain ⟨z0, w0⟩ : ∃ zs, IsRow .u16 W a0 len0 cap0 zs := by
    obtain ⟨fuel, hf⟩ := h0
    rcases open_ints Tryd.underlying22 Tryd.underlying90 (by kernel_rfl) hf with ⟨hcs, _⟩ | ⟨x, l, c, zs, hcs, _, hl, hm, hz, _, hcell, hwz⟩
    · simp [Value.cells] at hcs
      obtain ⟨rfl, rfl, rfl⟩ := hcs
      exact ⟨[], .inl ⟨rfl, rfl, rfl, rfl⟩⟩
    · simp [Value.cells] at hcs
      obtain ⟨rfl, rfl, rfl⟩ := hcs
      exact ⟨zs, .inr ⟨_, rfl, hl, hm, by simpa using hz, hcell, hwz⟩⟩
  clear hA0
  refine (walk a0 len0 cap0 z0 W w0 hL).mono fun e W' ⟨he, bel⟩ => ?_
  subst he
  exact ⟨_, rfl, _, _, _, [], _, q, hW', trodAll_mk1 (shut_bool Tryd.underlying4 _), (trodAll_cons_mk (Below.trod laidOut (by kernel_rfl) (of_decide_eq_true (by kernel_rfl)) k0 bel lt0) trodAll_mk0), Below.trodVars laidOut bel (by kernel_rfl) hV, bel.frame _, fun h => by cases h⟩

def tab_laid_github_com_evanw_esbuild_internal_sourcemap_base64 : List Nat := [65, 66, 67, 68, 69, 70, 71, 72, 73, 74, 75, 76, 77, 78, 79, 80, 81, 82, 83, 84, 85, 86, 87, 88, 89, 90, 97, 98, 99, 100, 101, 102, 103, 104, 105, 106, 107, 108, 109, 110, 111, 112, 113, 114, 115, 116, 117, 118, 119, 120, 121, 122, 48, 49, 50, 51, 52, 53, 54, 55, 56, 57, 43, 47]
/-- a world for the witness: the settled one, the listed variables holding what their initialisers lay -/
noncomputable def laidWorld (os : Os) : World :=
  let N := (World.settled Tryd.prog os).heap.size
  let w0 := World.holding Tryd.prog os ⟨#[.cells (intCellsOf .u8 tab_laid_github_com_evanw_esbuild_internal_sourcemap_base64) 5], #[], []⟩
  let put (h : Array Obj) (g : Nat) (cs : Array Value) : Array Obj := h.modify g fun
    | .cells _ t frozen => .cells cs t frozen
    | o => o
  let h1 := put w0.heap 0 #[.slice (some ⟨N + 0, 0, none⟩) 64 64]
  { w0 with heap := h1 }

noncomputable abbrev N0 : Nat := (World.settled Tryd.prog default).heap.size
set_option maxRecDepth 1000000 in
theorem piece0 (os : Os) (args : Array Value) : LaidIn Tryd.prog ((laidWorld os).forCall (fun _ _ => 0) ⟨#[], args, []⟩).memory [("github.com/evanw/esbuild/internal/sourcemap.base64", Lib.sliceData .u8 tab_laid_github_com_evanw_esbuild_internal_sourcemap_base64)] [0, N0 + 0] :=
  laidIn_slice (t := 31) (e := 5) (te := 5) tab_laid_github_com_evanw_esbuild_internal_sourcemap_base64 (N0 + 0) (by kernel_rfl) (by kernel_rfl) (by kernel_rfl) (by kernel_rfl) (by kernel_rfl) (by kernel_rfl) (by kernel_rfl) (by kernel_rfl) (of_decide_eq_true (by kernel_rfl)) (of_decide_eq_true (by kernel_rfl))
set_option maxRecDepth 1000000 in
theorem laid_met (os : Os) (args : Array Value) : laidMet Tryd.prog Rows.fnDecodeVLQUTF16MatchesModelRow.laid ((laidWorld os).forCall (fun _ _ => 0) ⟨#[], args, []⟩).memory :=
  (piece0 os args).met
theorem witness_row (os : Os) {H : Type} (enc : TypeId × Value → H) :
    (OpenSpec.ofChange Rows.fnDecodeVLQUTF16MatchesModelSpec).preRow enc Tryd.prog Tryd.f3 Rows.fnDecodeVLQUTF16MatchesModelRow.domain false Rows.fnDecodeVLQUTF16MatchesModelRow.laid ((laidWorld os).forCall (fun _ _ => 0) ⟨#[], #[.slice none 0 0], []⟩).memory #[.slice none 0 0] := by
  have hw : (DataW.whole enc Tryd.prog ((laidWorld os).forCall (fun _ _ => 0) ⟨#[], #[.slice none 0 0], []⟩).memory Tryd.f3.params.toList Rows.fnDecodeVLQUTF16MatchesModelSpec.vars false (#[.slice none 0 0] : Array Value).toList 8).map (fun x => (x.1, x.2.1)) =
      some ([.nil], [Rows.laid_github_com_evanw_esbuild_internal_sourcemap_base64]) := by kernel_rfl
  obtain ⟨⟨x1, x2, x3⟩, hx, hx1⟩ := Option.map_eq_some_iff.1 hw
  simp only [Prod.mk.injEq] at hx1
  obtain ⟨rfl, rfl⟩ := hx1
  exact OpenSpec.preRow_of_cond 8 hx (by kernel_rfl) (fun k hk => by cases hk) (by kernel_rfl) (laid_met os _)

set_option maxRecDepth 100000 in
theorem lifted (os : Os) (started : os.Started) (H : Type) (enc : TypeId × Value → H) (F : Stop.Interp) :
    ReturnsInHanded {} Tryd.checked os 3 .any ((OpenSpec.ofChange Rows.fnDecodeVLQUTF16MatchesModelSpec).preRow enc Tryd.prog Tryd.f3 Rows.fnDecodeVLQUTF16MatchesModelRow.domain false Rows.fnDecodeVLQUTF16MatchesModelRow.laid) (((OpenSpec.ofChange Rows.fnDecodeVLQUTF16MatchesModelSpec).at F).post enc Tryd.prog Tryd.f3 false true false false) := by
  refine returnsInHanded_of_row (C := Tryd.checked) (s := OpenSpec.ofChange Rows.fnDecodeVLQUTF16MatchesModelSpec) own started (by kernel_rfl) Tryd.func3
    (witness_row_atRef (enc := enc) (C := Tryd.checked) false (laidWorld os) #[.slice none 0 0] rfl (by kernel_rfl) (by kernel_rfl) (by kernel_rfl) (witness_row os enc)) ?_
  intro W base args ds gs before hval hW _ _ _ hL _ _
  exact contract H enc W base args ds gs before hval hW hL

theorem said : Rows.FnDecodeVLQUTF16MatchesModelSaid :=
  OpenClaim.holds_of_cond 3 Tryd.f3 rfl rfl rfl rfl rfl rfl rfl ⟨rfl, rfl, rfl, rfl, rfl⟩ rfl rfl rfl rfl rfl (by kernel_rfl) Tryd.func3 (by kernel_rfl)
    (of_decide_eq_true (by kernel_rfl)) (by unfold Func.isWrapper; first | (rw [if_pos (by decide +kernel)]; kernel_rfl) | (rw [if_neg (by decide +kernel)]; exact ⟨rfl, rfl⟩))
    (fun os started H enc _ F => by rw [OpenClaim.pre_eq_preRow]; exact lifted os started H enc F)

/-- No parameter wants a stand-in; the program's own looks are off: what the card asks. -/
theorem plain7 (f : FuncId) (fn : Func) (hf : Tryd.pinned.checked.prog.funcNamed Rows.fnDecodeVLQUTF16MatchesModelRow.func = some f) (hfn : Tryd.pinned.checked.prog.funcs[f]? = some fn) :
    false = Tryd.pinned.checked.prog.looks [] ∧ ∀ (j : Nat) t, fn.params[j]? = some t → Tryd.pinned.checked.prog.wantsStandIn t = false := by
  obtain rfl : f = 3 := Option.some.inj ((show Tryd.prog.funcNamed Rows.fnDecodeVLQUTF16MatchesModelRow.func = some 3 by kernel_rfl).symm.trans hf) |>.symm
  obtain rfl : fn = Tryd.f3 := (Option.some.inj (Tryd.func3.symm.trans hfn)).symm
  refine ⟨by kernel_rfl, fun j t ht => ?_⟩
  rw [Tryd.params3] at ht
  have hm := Array.mem_of_getElem? ht
  have : t = 22 := by simpa using hm
  subst this
  exact (show Tryd.prog.wantsStandIn 22 = false by kernel_rfl)

/-- the statement: the tied card -/
theorem proved : Rows.FnDecodeVLQUTF16MatchesModelCardSaid :=
  Claim7.holds_tied_plain_at .later [] _ _ _ _ said (fun _ h => by cases h) (by kernel_rfl) (fun _ h => by cases h) fnDecodeVLQUTF16MatchesModel_row_tie rfl ⟨rfl, rfl⟩ (by kernel_rfl) rfl plain7 (by kernel_rfl)
#print axioms proved
end Go.Proofs.YtfennlkojhnhjaaDoor.fnDecodeVLQUTF16MatchesModel
