/-
  For every start offset and every byte slice the law FnAdvanceBytesAgreesWithAdvanceString returns true: AdvanceBytes over the bytes and AdvanceString over the same bytes as a string give the same offset (beyond its length bound it returns true too). The card ties the decoder's tables to the program's text.
-/
import Derived.Test.YtbicjmaogbaldaaDoorCards
import Derived.Test.YtbicjmaogbaldaaDoorTie
import Derived.WalkKit
import Derived.ProofKit
import Derived.OpenShut
import Derived.ShutString
import Derived.ChangeOld
import Derived.Below
import Derived.Deep.DeepHandedRow
import Derived.Deep.DeepWitnessRowRef
import Derived.Lib.LaidIn
import Derived.Lib.LaidSlice
import Derived.Lib.LaidU8
import Derived.PinnedBridge
import Derived.OpenVars
import Derived.Lib.SlBytesRow
import Derived.Laws.BytesArg
import Derived.Laws.StructEq
import Derived.Lib.LaidU8T
import Derived.PinnedBridge
import Derived.Test.YtbicjmaogbaldaaDoorAdv
namespace Go.Proofs.YtbicjmaogbaldaaDoor.fnAdvanceBytesAgreesWithAdvanceString
open Go.ChangeShapes Go.WideShapes Go.ChangeAt Go.RowKit
open Go.ChangeMaps (open_string shut_string)
set_option linter.unusedVariables false

theorem own : ownKnob Tryd.prog.godebug = none := by kernel_rfl
theorem laidOut : laidOutB Tryd.prog = true := by kernel_rfl

/-- WHAT THE WALK IS TOLD OF A SLICE OF INTEGERS THAT CAME IN: it is nil; or it leads to a row of 'cap' cells, the numbers 'zs' (the first 'len' are its elements, the rest its spare room), each fitting its kind. -/
def IsRow (k : IntKind) (w : World) (a : Option Addr) (len cap : Nat) (zs : List Int) : Prop :=
  (a = none ∧ len = 0 ∧ cap = 0 ∧ zs = []) ∨
  ∃ x, a = some x ∧ len ≤ cap ∧ cap ≤ maxLen ∧ zs.length = cap ∧ (∀ i, i < zs.length → w.cell? (x.add i) = some (.int k (zs.getD i 0))) ∧ ∀ n ∈ zs, (Lit.int k n).wf = true

def u8ren : Go.Shelf.Ren := ⟨fun n => n, fun | 119 => 32 | 138 => 35 | 139 => 36 | n => n, fun | 3 => 0 | 4 => 1 | n => n⟩
theorem u8types : U8Types Tryd.prog u8ren := ⟨Tryd.underlying5, Tryd.underlying32, Tryd.underlying35, Tryd.underlying36⟩
theorem u8extra : U8Extra Tryd.prog u8ren := ⟨by kernel_rfl, by kernel_rfl, by kernel_rfl, by kernel_rfl, by kernel_rfl, by kernel_rfl, by kernel_rfl⟩
theorem row_in {w : World} {a : Option Addr} {len cap : Nat} {z : List Int} (h : IsRow .u8 w a len cap z) : ∃ zs : List Int, zs.length = len ∧ In .u8 w a zs ∧ zs.length ≤ maxLen ∧ ∀ i, i < zs.length → 0 ≤ nth zs i ∧ nth zs i ≤ 255 := by
  rcases h with ⟨rfl, rfl, rfl, rfl⟩ | ⟨x, rfl, h1, h2, h3, h4, h5⟩
  · exact ⟨[], rfl, .inl rfl, by simp, fun i h => by simp at h⟩
  · have hl : (z.take len).length = len := by rw [List.length_take]; omega
    refine ⟨z.take len, hl, ?_, by omega, fun i hi => ?_⟩
    · by_cases h0 : len = 0
      · subst h0; exact .inl (by simp)
      · obtain ⟨b, off, spot⟩ := x
        have hc := h4 0 (by omega)
        have hspot : spot = none := by simpa [Addr.add] using World.cell?_spot hc
        subst hspot
        refine .inr ⟨b, off, rfl, World.block_lt_of_cell? w _ hc, fun i hi => ?_⟩
        have := h4 i (by omega)
        have e : (⟨b, off, none⟩ : Addr).add i = ⟨b, off + i, none⟩ := by unfold Addr.add; split <;> simp_all
        rw [e] at this
        rw [this, nth_take z len i (by omega)]; rfl
    · rw [nth_take z len i (by omega)]
      exact bounds_u8 (h5 _ (nth_mem z i (by omega)))
theorem byt_of (zs : List Int) (h : ∀ i, i < zs.length → 0 ≤ nth zs i ∧ nth zs i ≤ 255) : ∃ s : ByteArray, byt s = zs := by
  refine ⟨⟨(zs.map fun z => UInt8.ofNat z.toNat).toArray⟩, ?_⟩
  unfold byt
  simp only [List.map_map]
  apply List.ext_getElem (by simp)
  intro i h1 h2
  have := h i h2
  rw [nth_get zs i h2] at this
  simp
  omega
theorem byt_nth (s : ByteArray) (i : Nat) (h : i < s.size) : nth (byt s) i = ((s.get! i).toNat : Int) := by
  have hl : i < s.data.toList.length := by rw [Array.length_toList]; exact h
  rw [nth_get _ _ (by rw [byt_length]; exact h), get!_at s i h]
  simp [byt]; rfl
theorem bytes_yes (l c : Int) (a0 : Option Addr) (n0 c0 : Nat) (w : World) (h : n0 ≤ 1048576) : Calls Tryd.prog 4 #[.int .i64 l, .int .i64 c, .slice a0 n0 c0] w fun e w' => e = .returned (.bool true) ∧ w' = w := by
  go_enter Tryd.func4, Tryd.ntmps4
  go_wp2
  go_ret
  exact ⟨rfl, rfl⟩
theorem bytes_no (l c : Int) (a0 : Option Addr) (n0 c0 : Nat) (w : World) (h : 1048576 < n0) : Calls Tryd.prog 4 #[.int .i64 l, .int .i64 c, .slice a0 n0 c0] w fun e w' => e = .returned (.bool false) ∧ w' = w := by
  go_enter Tryd.func4, Tryd.ntmps4
  go_wp2
  go_ret
  exact ⟨rfl, rfl⟩
theorem bad1 (l c : Int) (a0 : Option Addr) (n0 c0 : Nat) (w : World) (h : 1048576 < n0) : Calls Tryd.prog 3 #[.int .i64 l, .int .i64 c, .slice a0 n0 c0] w fun e w' => e = .returned (.bool true) ∧ Below w.heap.size w w' := by
  go_enter Tryd.func3, Tryd.ntmps3
  go_wp2_with fail
  refine (bytes_no _ _ _ _ _ _ h).mono ?_
  rintro e w1 ⟨rfl, rfl⟩
  go_wp2
  go_ret
  exact ⟨rfl, Below.refl _ _⟩
theorem conv_own {w : World} {B : Nat} {ao : Option Addr} {n c : Nat} {O : ByteArray} (h : Own .u8 5 w B (.slice ao n c) (byt O)) : (convert 22 9 (.slice ao n c)).run Tryd.prog w = .ok (.string O) w := by
  obtain ⟨ao', cap', e, hin, _, hf⟩ := h.form
  cases e
  rw [byt_length]
  rcases hf with ⟨rfl, hz, _⟩ | ⟨g, rfl, _, _⟩
  · have hs : O.size = 0 := by rw [← byt_length, hz]; rfl
    have : O = ByteArray.empty := by
      apply ByteArray.ext
      exact (Array.eq_empty_of_size_eq_zero hs).trans rfl
    rw [this]
    exact run_convert_bytes_nil w 22 5 Tryd.underlying22 Tryd.underlying5 _ _ 9 Tryd.underlying9
  · refine Lib.run_convert_whole (P := Tryd.prog) w 22 5 9 Tryd.underlying22 Tryd.underlying5 Tryd.underlying9 g 0 O ?_ c
    intro i hi
    rcases hin with h | ⟨b, off, hx, _, hc⟩
    · have := byt_length O; rw [h] at this; simp at this; omega
    · cases hx
      rw [hc i (by rw [byt_length]; exact hi), byt_nth O i hi, get!_at O i hi]
/-- the copy's bytes, nil or not -/
theorem own_cells {w : World} {B : Nat} {ao : Option Addr} {n c : Nat} {s : ByteArray} (h : Own .u8 5 w B (.slice ao n c) (byt s)) (h0 : 0 < w.heap.size) :
    ∃ g, g < w.heap.size ∧ (0 < s.size → ao = some ⟨g, 0, none⟩ ∧ s.size ≤ c) ∧ ∀ i, i < s.size → w.cell? ⟨g, i, none⟩ = some (.int .u8 (s.get! i).toNat) := by
  obtain ⟨ao', cap', e, hin, hcap, hf⟩ := h.form
  cases e
  rw [byt_length] at hcap
  rcases hf with ⟨rfl, hz, _⟩ | ⟨g, rfl, _, hg⟩
  · have hs : s.size = 0 := by rw [← byt_length, hz]; rfl
    exact ⟨0, h0, fun h => by omega, fun i hi => by omega⟩
  · refine ⟨g, hg, fun _ => ⟨rfl, hcap⟩, fun i hi => ?_⟩
    rcases hin with h | ⟨b, off, hx, _, hc⟩
    · have := byt_length s; rw [h] at this; simp at this; omega
    · cases hx
      have := hc i (by rw [byt_length]; exact hi)
      rw [Nat.zero_add] at this
      rw [this, byt_nth s i hi]
set_option maxHeartbeats 1000000 in
theorem good (l c : Int) (a0 : Option Addr) (c0 : Nat) (s : ByteArray) (w : World) (hin : In .u8 w a0 (byt s)) (ht : Lib.Utf8Tabs 0 1 w) (hl : s.size ≤ 1048576) :
    Calls Tryd.prog 3 #[.int .i64 l, .int .i64 c, .slice a0 (byt s).length c0] w fun e w' => e = .returned (.bool true) ∧ Below w.heap.size w w' := by
  have w0 : 1 < w.heap.size := World.block_lt_of_cell? w ⟨1, 0, none⟩ (ht.2 0 (by decide)).1
  have hbl : (byt s).length ≤ 1048576 := by rw [byt_length]; exact hl
  have HI := Lib.hid (And.intro hin ht)
  clear hin ht
  have d0 : decide ((1048576 : Int) < ((byt s).length : Int)) = false := by simp; omega
  go_enter Tryd.func3, Tryd.ntmps3
  go_wp2_with fail
  refine (bytes_yes _ _ _ _ _ _ hbl).mono ?_
  rintro e w1 ⟨rfl, rfl⟩
  go_wp2_with fail
  refine (copyB_any a0 c0 (byt s) _ HI.out.1 hbl).mono ?_
  rintro e w2 ⟨v2, rfl, ho2, hb2⟩
  obtain ⟨ao, cap, rfl, _, _, _⟩ := ho2.form
  have z2 := hb2.size
  obtain ⟨g, hg, hga, hgc⟩ := own_cells ho2 (by omega)
  have H2 := Lib.hid (And.intro ho2 (And.intro hb2 (And.intro hga hgc)))
  have T2 := Lib.hid (tabs_below HI.out.2 hb2 (by omega) (by omega))
  clear ho2 hb2 hga hgc
  go_wp2_with fail
  have B0 : Below w2.heap.size w2 (w2.alloc (Obj.cells #[.int .i64 l, .int .i64 c] 26)) := (Below.refl _ _).alloc (Nat.le_refl _) _
  have eb : (byt s).length = s.size := byt_length s
  have A1 := advB w2.heap.size g cap s l c ao _ (Blk.new w2 26 #[.int .i64 l, .int .i64 c]) (fun i hi => (World.cell?_alloc_lt _ _ _ hg).trans (H2.out.2.2.2 i hi)) hg (tabs_below T2.out B0 (by omega) (by omega)) (by omega) hl H2.out.2.2.1
  rw [← eb] at A1
  refine A1.mono ?_
  clear A1
  rintro e w3 ⟨rfl, P3, b3⟩
  have B3 := B0.trans b3
  rw [eb] at P3
  have ho3 := H2.out.1.kept B3
  rw [eb] at ho3
  have z3 := P3.lt
  have hcv : ∀ o, (convert 22 9 (.slice ao s.size cap)).run Tryd.prog (w3.alloc o) = .ok (.string s) (w3.alloc o) := fun o => conv_own (ho3.alloc o)
  have K3 := Lib.hid (And.intro P3 B3)
  clear P3 b3 B3 ho3 B0
  go_wp2_with fail
  refine (advS w3.heap.size s l c _ (Blk.new w3 26 #[.int .i64 l, .int .i64 c]) hl).mono ?_
  rintro e w4 ⟨rfl, P4, b4⟩
  have B4 := ((Below.refl w3.heap.size w3).alloc (Nat.le_refl _) (Obj.cells #[.int .i64 l, .int .i64 c] 26)).trans b4
  have P3 := K3.out.1.kept B4
  have N4 := Lib.hid (below_then (K3.out.2.mono z2) B4 (by omega))
  have N2 := Lib.hid H2.out.2.1
  clear K3 b4 B4 H2 T2 HI hcv
  generalize (adv s s.size 0 l c).1 = X at P3 P4
  generalize (adv s s.size 0 l c).2 = Y at P3 P4
  have ⟨c1, c2, c3⟩ := P3.two
  have ⟨f1, f2, f3⟩ := P4.two
  clear P3 P4
  go_wp2
  go_ret
  exact ⟨rfl, N2.out.trans N4.out⟩

theorem walk (a0 : Int) (a1 : Int) (a2 : Option Addr) (len2 cap2 : Nat) (z2 : List Int) (w : World) (w0 : (Lit.int .i64 a0).wf = true) (w1 : (Lit.int .i64 a1).wf = true) (w2 : IsRow .u8 w a2 len2 cap2 z2) (hL : laidMetH Tryd.prog Rows.fnAdvanceBytesAgreesWithAdvanceStringRow.laid w) :
    Calls Tryd.prog 3 #[.int .i64 a0, .int .i64 a1, .slice a2 len2 cap2] w fun e w' => e = .returned (.bool true) ∧ Below w.heap.size w w' := by
  obtain ⟨zs, hx0, hI0, m0, hb0⟩ := row_in w2
  subst hx0
  obtain ⟨s, hs⟩ := byt_of zs hb0
  subst hs
  have ht : Lib.Utf8Tabs 0 1 w := utf8Tabs_of_readsT u8types u8extra (Pinned.utf8First_eq ▸ Lib.laidMet.reads hL (.tail _ (.head _))) (Lib.laidMet.reads hL (.head _))
  by_cases hl : (byt s).length ≤ 1048576
  · exact good _ _ _ _ s w hI0 ht (by rw [byt_length] at hl; exact hl)
  · exact bad1 _ _ _ _ _ _ (by omega)

open Go.Lib
set_option maxRecDepth 100000 in
theorem contract (H : Type) (enc : TypeId × Value → H) (W : World) (base : Nat) (args : Array Value) (ds gs : List (DataW H)) (before : List MemPlace)
    (hval : ∀ (j : Nat) t v, Tryd.f3.params[j]? = some t → args[j]? = some v → Value.okWide Tryd.prog W .any base t v)
    (hW : DataW.Whole enc Tryd.prog Tryd.f3.params.toList Rows.fnAdvanceBytesAgreesWithAdvanceStringSpec.vars false W args.toList ds gs before) (hL : laidMetH Tryd.prog Rows.fnAdvanceBytesAgreesWithAdvanceStringRow.laid W) :
    Calls Tryd.prog 3 args W fun e W' => ∃ v, e = .returned v ∧ Rows.fnAdvanceBytesAgreesWithAdvanceStringSpec.post enc Tryd.prog Tryd.f3 false true false false W args v W' := by
  have hW' := hW
  obtain ⟨p, q, hA0, hV, rfl, hfz, hnd⟩ := hW
  have hA : DataW.TrodAll enc Tryd.prog W 0 (fun _ => true) true Tryd.f3.params.toList args.toList ds p := hA0
  rw [Tryd.params3] at hA hval
  obtain ⟨v0, vs0, d0, ds0, p0, q0, hargs, rfl, rfl, h0, r0⟩ := trodAll_cons hA
  obtain ⟨v1, vs1, d1, ds1, p1, q1, rfl, rfl, rfl, h1, r1⟩ := trodAll_cons r0
  obtain ⟨v2, vs2, d2, ds2, p2, q2, rfl, rfl, rfl, h2, r2⟩ := trodAll_cons r1
  obtain ⟨rfl, rfl, rfl⟩ := trodAll_nil r2
  obtain rfl : args = #[v0, v1, v2] := by cases args; simp_all
  obtain ⟨rfl, rfl⟩ := trodVars_none hV
  obtain ⟨a0, rfl, rfl, rfl, w0⟩ := open_int Tryd.underlying3 (hval 0 3 v0 rfl rfl) h0
  obtain ⟨a1, rfl, rfl, rfl, w1⟩ := open_int Tryd.underlying3 (hval 1 3 v1 rfl rfl) h1
  obtain ⟨a2, len2, cap2, rfl⟩ := okWide_slice Tryd.underlying22 (hval 2 22 v2 rfl rfl)
  have k2 := h2
  have lt2 : ∀ x ∈ p2, x.block < W.heap.size := by obtain ⟨m, hm⟩ := k2; exact DataW.trod_lt m _ _ _ hm
  obtain ⟨z2, w2⟩ : ∃ zs, IsRow .u8 W a2 len2 cap2 zs := by
    obtain ⟨fuel, hf⟩ := h2
    rcases open_ints Tryd.underlying22 Tryd.underlying5 (by kernel_rfl) hf with ⟨hcs, _⟩ | ⟨x, l, c, zs, hcs, _, hl, hm, hz, _, hcell, hwz⟩
    · simp [Value.cells] at hcs
      obtain ⟨rfl, rfl, rfl⟩ := hcs
      exact ⟨[], .inl ⟨rfl, rfl, rfl, rfl⟩⟩
    · simp [Value.cells] at hcs
      obtain ⟨rfl, rfl, rfl⟩ := hcs
      exact ⟨zs, .inr ⟨_, rfl, hl, hm, by simpa using hz, hcell, hwz⟩⟩
  clear hA0
  refine (walk a0 a1 a2 len2 cap2 z2 W w0 w1 w2 hL).mono fun e W' ⟨he, bel⟩ => ?_
  subst he
  exact ⟨_, rfl, _, _, _, [], _, [], hW', trodAll_mk1 (shut_bool Tryd.underlying4 _), (trodAll_cons_mk (shut_int Tryd.underlying3 w0) (trodAll_cons_mk (shut_int Tryd.underlying3 w1) (trodAll_cons_mk (Below.trod laidOut (by kernel_rfl) (of_decide_eq_true (by kernel_rfl)) k2 bel lt2) trodAll_mk0))), rfl, bel.frame _, fun h => by cases h⟩


/-- a world for the witness: the settled one, the listed variables holding what their initialisers lay -/
noncomputable def laidWorld (os : Os) : World :=
  let w0 := World.holding Tryd.prog os ⟨#[], #[], []⟩
  let put (h : Array Obj) (g : Nat) (cs : Array Value) : Array Obj := h.modify g fun
    | .cells _ t frozen => .cells cs t frozen
    | o => o
  let h1 := put w0.heap 1 ((List.range 16).flatMap fun i => [Value.int .u8 (Lib.accLo i), Value.int .u8 (Lib.accHi i)]).toArray
  let h2 := put h1 0 (Lib.firstTab.map fun z => Value.int .u8 z).toArray
  { w0 with heap := h2 }


set_option maxRecDepth 1000000 in
theorem piece0 (os : Os) (args : Array Value) : LaidIn Tryd.prog ((laidWorld os).forCall (fun _ _ => 0) ⟨#[], args, []⟩).memory [("unicode/utf8.acceptRanges", Rows.laid_unicode_utf8_acceptRanges), ("unicode/utf8.first", Rows.laid_unicode_utf8_first)] [1, 0] :=
  LaidIn.of_run [1, 0] 8 (by kernel_rfl) (by kernel_rfl) (by kernel_rfl) (by kernel_rfl)
set_option maxRecDepth 1000000 in
theorem laid_met (os : Os) (args : Array Value) : laidMet Tryd.prog Rows.fnAdvanceBytesAgreesWithAdvanceStringRow.laid ((laidWorld os).forCall (fun _ _ => 0) ⟨#[], args, []⟩).memory :=
  (piece0 os args).met
theorem witness_row (os : Os) {H : Type} (enc : TypeId × Value → H) :
    (OpenSpec.ofChange Rows.fnAdvanceBytesAgreesWithAdvanceStringSpec).preRow enc Tryd.prog Tryd.f3 Rows.fnAdvanceBytesAgreesWithAdvanceStringRow.domain false Rows.fnAdvanceBytesAgreesWithAdvanceStringRow.laid ((laidWorld os).forCall (fun _ _ => 0) ⟨#[], #[.int .i64 0, .int .i64 0, .slice none 0 0], []⟩).memory #[.int .i64 0, .int .i64 0, .slice none 0 0] := by
  have hw : (DataW.whole enc Tryd.prog ((laidWorld os).forCall (fun _ _ => 0) ⟨#[], #[.int .i64 0, .int .i64 0, .slice none 0 0], []⟩).memory Tryd.f3.params.toList Rows.fnAdvanceBytesAgreesWithAdvanceStringSpec.vars false (#[.int .i64 0, .int .i64 0, .slice none 0 0] : Array Value).toList 8).map (fun x => (x.1, x.2.1)) =
      some ([.lit (.int .i64 0), .lit (.int .i64 0), .nil], []) := by kernel_rfl
  obtain ⟨⟨x1, x2, x3⟩, hx, hx1⟩ := Option.map_eq_some_iff.1 hw
  simp only [Prod.mk.injEq] at hx1
  obtain ⟨rfl, rfl⟩ := hx1
  exact OpenSpec.preRow_of_cond 8 hx (by kernel_rfl) (fun k hk => by cases hk) (by kernel_rfl) (laid_met os _)

set_option maxRecDepth 100000 in
theorem lifted (os : Os) (started : os.Started) (H : Type) (enc : TypeId × Value → H) (F : Stop.Interp) :
    ReturnsInHanded {} Tryd.checked os 3 .any ((OpenSpec.ofChange Rows.fnAdvanceBytesAgreesWithAdvanceStringSpec).preRow enc Tryd.prog Tryd.f3 Rows.fnAdvanceBytesAgreesWithAdvanceStringRow.domain false Rows.fnAdvanceBytesAgreesWithAdvanceStringRow.laid) (((OpenSpec.ofChange Rows.fnAdvanceBytesAgreesWithAdvanceStringSpec).at F).post enc Tryd.prog Tryd.f3 false true false false) := by
  refine returnsInHanded_of_row (C := Tryd.checked) (s := OpenSpec.ofChange Rows.fnAdvanceBytesAgreesWithAdvanceStringSpec) own started (by kernel_rfl) Tryd.func3
    (witness_row_atRef (enc := enc) (C := Tryd.checked) false (laidWorld os) #[.int .i64 0, .int .i64 0, .slice none 0 0] rfl (by kernel_rfl) (by kernel_rfl) (by kernel_rfl) (witness_row os enc)) ?_
  intro W base args ds gs before hval hW _ _ _ hL _ _
  exact contract H enc W base args ds gs before hval hW hL

theorem said : Rows.FnAdvanceBytesAgreesWithAdvanceStringSaid :=
  OpenClaim.holds_of_cond 3 Tryd.f3 rfl rfl rfl rfl rfl rfl rfl ⟨rfl, rfl, rfl, rfl, rfl⟩ rfl rfl rfl rfl rfl (by kernel_rfl) Tryd.func3 (by kernel_rfl)
    (of_decide_eq_true (by kernel_rfl)) (by unfold Func.isWrapper; first | (rw [if_pos (by decide +kernel)]; kernel_rfl) | (rw [if_neg (by decide +kernel)]; exact ⟨rfl, rfl⟩))
    (fun os started H enc _ F => by rw [OpenClaim.pre_eq_preRow]; exact lifted os started H enc F)

/-- No parameter wants a stand-in; the program's own looks are off: what the card asks. -/
theorem plain7 (f : FuncId) (fn : Func) (hf : Tryd.pinned.checked.prog.funcNamed Rows.fnAdvanceBytesAgreesWithAdvanceStringRow.func = some f) (hfn : Tryd.pinned.checked.prog.funcs[f]? = some fn) :
    false = Tryd.pinned.checked.prog.looks [] ∧ ∀ (j : Nat) t, fn.params[j]? = some t → Tryd.pinned.checked.prog.wantsStandIn t = false := by
  obtain rfl : f = 3 := Option.some.inj ((show Tryd.prog.funcNamed Rows.fnAdvanceBytesAgreesWithAdvanceStringRow.func = some 3 by kernel_rfl).symm.trans hf) |>.symm
  obtain rfl : fn = Tryd.f3 := (Option.some.inj (Tryd.func3.symm.trans hfn)).symm
  refine ⟨by kernel_rfl, fun j t ht => ?_⟩
  rw [Tryd.params3] at ht
  have hm := Array.mem_of_getElem? ht
  have : t = 3 ∨ t = 22 := by simpa using hm
  rcases this with rfl | rfl
  · exact (show Tryd.prog.wantsStandIn 3 = false by kernel_rfl)
  · exact (show Tryd.prog.wantsStandIn 22 = false by kernel_rfl)

/-- the statement: the tied card -/
theorem proved : Rows.FnAdvanceBytesAgreesWithAdvanceStringCardSaid :=
  Claim7.holds_tied_plain_at .later [] _ _ _ _ said (fun _ h => by cases h) (by kernel_rfl) (fun _ h => by cases h) fnAdvanceBytesAgreesWithAdvanceString_row_tie rfl ⟨rfl, rfl⟩ (by kernel_rfl) rfl plain7 (by kernel_rfl)
#print axioms proved
end Go.Proofs.YtbicjmaogbaldaaDoor.fnAdvanceBytesAgreesWithAdvanceString
