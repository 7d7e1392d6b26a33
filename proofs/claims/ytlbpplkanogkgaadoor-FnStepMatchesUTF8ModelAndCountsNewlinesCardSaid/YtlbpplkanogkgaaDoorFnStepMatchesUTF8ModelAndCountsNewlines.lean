/-
  For every text the law FnStepMatchesUTF8ModelAndCountsNewlines returns true: across its steps the css lexer's code point, cursor, token length and newline count are those of an independent UTF-8 decoder, and the cursor rests at the text's end (beyond its length bound the law returns true too). The card ties the decoder's tables to the program's text.
-/
import Derived.Test.YtlbpplkanogkgaaDoorCards
import Derived.Test.YtlbpplkanogkgaaDoorTie
import Derived.WalkKit
import Derived.ProofKit
import Derived.OpenShut
import Derived.ShutString
import Derived.ChangeOld
import Derived.Below
import Derived.Deep.DeepHandedRow
import Derived.Deep.DeepWitnessRowRef
import Derived.Lib.LaidIn
import Derived.Lib.LaidSlice
import Derived.Lib.LaidU8
import Derived.PinnedBridge
import Derived.OpenVars
import Derived.Lib.LaidU8T
import Derived.PinnedBridge
import Derived.Test.YtlbpplkanogkgaaDoorZdAny
import Derived.Test.YtlbpplkanogkgaaDoorCssNew
namespace Go.Proofs.YtlbpplkanogkgaaDoor.fnStepMatchesUTF8ModelAndCountsNewlines
open Go.ChangeShapes Go.WideShapes Go.ChangeAt Go.RowKit
open Go.ChangeMaps (open_string shut_string)
set_option linter.unusedVariables false

theorem own : ownKnob Tryd.prog.godebug = none := by kernel_rfl
theorem laidOut : laidOutB Tryd.prog = true := by kernel_rfl

def u8ren : Go.Shelf.Ren := ⟨fun n => n, fun | 119 => 165 | 138 => 167 | 139 => 168 | n => n, fun | 3 => 0 | 4 => 1 | n => n⟩
theorem u8types : U8Types Tryd.prog u8ren := ⟨Tryd.underlying5, Tryd.underlying165, Tryd.underlying167, Tryd.underlying168⟩
theorem u8extra : U8Extra Tryd.prog u8ren := ⟨by kernel_rfl, by kernel_rfl, by kernel_rfl, by kernel_rfl, by kernel_rfl, by kernel_rfl, by kernel_rfl⟩
theorem bytes_no (s : ByteArray) (w : World) (h : 1048576 < s.size) (hm : s.size ≤ maxLen) : Calls Tryd.prog 17 #[.string s] w fun r w' => r = .returned (.bool false) ∧ w = w' := by
  unfold maxLen at hm
  go_enter Tryd.func17, Tryd.ntmps17
  go_wp2
  go_ret
  exact ⟨rfl, rfl⟩
theorem bytes_yes (s : ByteArray) (w : World) (h : s.size ≤ 1048576) : Calls Tryd.prog 17 #[.string s] w fun r w' => r = .returned (.bool true) ∧ w = w' := by
  go_enter Tryd.func17, Tryd.ntmps17
  go_wp2
  go_ret
  exact ⟨rfl, rfl⟩
theorem bad1 (s : ByteArray) (w : World) (h : 1048576 < s.size) (hm : s.size ≤ maxLen) : Calls Tryd.prog 4 #[.string s] w fun e w' => e = .returned (.bool true) ∧ Below w.heap.size w w' := by
  go_enter Tryd.func4, Tryd.ntmps4
  go_wp2_with (go_at_call 17; refine (bytes_no _ _ h hm).mono ?_; rintro e w1 ⟨rfl, rfl⟩)
  go_ret
  exact ⟨rfl, Below.refl _ _⟩
set_option maxRecDepth 100000 in
theorem zd (s : ByteArray) (i : Nat) (w : World) (h : i ≤ s.size) (hs : s.size ≤ 2097152) (v : Int) (W : Nat) (hd : decAt s i = (v, W)) : Calls Tryd.prog 20 #[.string s, .int .i64 i] w (Zd.Dec w v W) := by
  by_cases hl : i < s.size
  · unfold decAt at hd
    rw [if_pos hl] at hd
    cases hd
    exact Zd.any s i w hl hs
  · unfold decAt at hd
    rw [if_neg hl] at hd
    cases hd
    obtain rfl : i = s.size := by omega
    have d0 : decide ((s.size : Int) < 0) = false := by simp
    go_enter Tryd.func20, Tryd.ntmps20
    go_wp2
    go_ret2
    exact ⟨rfl, 0, rfl⟩
theorem dec_w {s : ByteArray} {i W : Nat} {v : Int} (hd : decAt s i = (v, W)) (h : i ≤ s.size) : (i < s.size → 1 ≤ W) ∧ i + W ≤ s.size := by
  unfold decAt at hd
  by_cases hl : i < s.size
  · rw [if_pos hl] at hd
    cases hd
    exact ⟨fun _ => (width_le s i hl).1, (width_le s i hl).2⟩
  · rw [if_neg hl] at hd
    cases hd
    exact ⟨fun c => absurd c hl, h⟩
theorem bdr {B : Nat} {a w : World} (h : Below B a w) (m : Nat) : Below B a (w.drewN m) := ⟨h.os, h.tape, h.output, h.size, h.block⟩
/-- what the loop knows -/
def Rel (s : ByteArray) (p : Nat) (w : World) (k prev nl : Nat) (wr : World) : Prop :=
  ∃ x, Css wr p x ∧ x.s = s ∧ x.cur = prev ∧ x.st = 0 ∧ x.nl = nl ∧ prev ≤ s.size ∧ nl ≤ k ∧ (k ≤ prev ∨ prev = s.size) ∧ Below w.heap.size w wr ∧ w.heap.size ≤ p ∧ Lib.Utf8Tabs 0 1 wr
set_option maxHeartbeats 2000000 in
theorem good (s : ByteArray) (w : World) (h : s.size ≤ 1048576) (ht : Lib.Utf8Tabs 0 1 w) : Calls Tryd.prog 4 #[.string s] w fun e w' => e = .returned (.bool true) ∧ Below w.heap.size w w' := by
  have w0 : 1 < w.heap.size := World.block_lt_of_cell? w ⟨1, 0, none⟩ (ht.2 0 (by decide)).1
  have HT := Lib.hid ht
  clear ht
  go_enter Tryd.func4, Tryd.ntmps4
  go_wp2_with fail
  refine (bytes_yes _ _ h).mono ?_
  rintro e w1 ⟨rfl, rfl⟩
  go_wp2_with fail
  refine (css_new111 _ _ _).mono ?_
  rintro e w1 ⟨p, rfl, hj, hp, hb⟩
  have HJ := Lib.hid (And.intro hj (And.intro hb (tabs_below HT.out hb (by omega) (by omega))))
  clear hj hb
  go_wp2_with fail
  go_loopw [2, 4, 5, 6] (fun _ a b c wr => ∃ prev nl k : Nat, a = .int .i64 prev ∧ b = .int .i64 nl ∧ c = .int .i64 k ∧ k ≤ s.size + 2 ∧ Rel s p w k prev nl wr) (fun _ _ _ c _ => s.size + 2 - (intOf c).toNat)
  case atStart => exact ⟨0, 0, 0, rfl, rfl, rfl, by omega, _, HJ.out.1, rfl, rfl, rfl, rfl, by omega, by omega, .inl (by omega), HJ.out.2.1, hp, HJ.out.2.2⟩
  case round =>
    obtain ⟨prev, nl, k, rfl, rfl, rfl, hk, x, hx, hxs, hxc, hxst, hxn, hpv, hnl, hkp, hbel, _, htab⟩ := hrel
    rcases (show k = s.size + 2 ∨ k < s.size + 2 by omega) with rfl | hlt
    · obtain rfl : prev = s.size := by omega
      have HB := Lib.hid hbel
      clear hbel hx hxs hxc hxst hxn htab
      go_wp2
      go_ret
      exact ⟨rfl, HB.out⟩
    · obtain ⟨ra, s', al, lg, mt, ms, ml, nl', cur', cp, st', ln, un, kd, fl⟩ := x
      simp only at hxs hxc hxst hxn
      subst hxs hxc hxst hxn
      obtain ⟨v, W, hd⟩ : ∃ v W, decAt s' cur' = (v, W) := ⟨_, _, rfl⟩
      have hWW := dec_w hd hpv
      rcases (show v = 10 ∨ v ≠ 10 by omega) with rfl | hv
      · have hst := css_zstep p _ wr hx hpv (by simp only; omega) (Nat.zero_le _) (by simp only; omega) htab
        rw [show Lx.step ⟨ra, s', al, lg, mt, ms, ml, nl', cur', cp, 0, ln, un, kd, fl⟩ = ⟨ra, s', al, lg, mt, ms, ml, nl' + 1, cur' + W, 10, 0, cur', un, kd, fl⟩ by unfold Lx.step; simp only [hd]; rfl] at hst
        have HS := Lib.hid hst
        have HD := Lib.hid hd
        have HR := Lib.hid (And.intro hbel (And.intro htab hx))
        clear hst hd hbel htab hx
        go_wp2_with fail
        refine HS.out.mono ?_
        rintro e w2 ⟨rfl, h2, g2⟩
        have hp2 := h2.lt
        have HQ2 := Lib.hid (And.intro h2 g2)
        clear h2 g2
        go_wp2_with fail
        refine (zd _ _ _ hpv (by omega) _ _ HD.out).mono ?_
        rintro e w3 ⟨rfl, m3, rfl⟩
        go_wp2_with (first | (go_at_call 21; refine (css_cp _ _ (w2.drewN m3) HQ2.out.1).mono ?_; rintro e w4 ⟨rfl, rfl⟩) | (go_at_call 22; refine (css_cur _ _ (w2.drewN m3) HQ2.out.1).mono ?_; rintro e w4 ⟨rfl, rfl⟩) | (go_at_call 23; refine (css_tok _ _ (w2.drewN m3) HQ2.out.1).mono ?_; rintro e w4 ⟨rfl, b4⟩))
        have hz2 : w.heap.size ≤ w2.heap.size := by omega
        have b5 : Below w.heap.size w w4 := (bdr (below_gb HR.out.1 HQ2.out.2 (by have := HR.out.2.2.lt; omega) hp) m3).trans (b4.mono hz2)
        have c5 := Css.kept (w := w2.drewN m3) HQ2.out.1 b4
        have z5 := b4.size
        have b6 := b5.alloc (by simp at z5; omega) (.cells #[.int .i32 0, .int .i32 cur', .int .u16 un, .int .u8 kd, .int .u8 fl] 85)
        have HQ := Lib.hid (And.intro (c5.alloc (.cells #[.int .i32 0, .int .i32 cur', .int .u16 un, .int .u8 kd, .int .u8 fl] 85)) (And.intro b6 (tabs_below HT.out b6 (by omega) (by omega))))
        clear c5 b5 b4 b6
        refine (css_nl _ _ _ HQ.out.1).mono ?_
        rintro e w6 ⟨rfl, rfl⟩
        go_wp2
        go_roundw
        case rel => exact ⟨cur' + W, nl' + 1, k + 1, by go_num, by go_num, by go_num, by omega, _, HQ.out.1, rfl, rfl, rfl, rfl, hWW.2, by omega, by omega, HQ.out.2.1, hp, HQ.out.2.2⟩
        case measure => simp [intOf]; omega
      · have hv1 : (v == 10) = false := beq_eq_false_iff_ne.2 hv
        have hst := css_zstep p _ wr hx hpv (by simp only; omega) (Nat.zero_le _) (by simp only; omega) htab
        rw [show Lx.step ⟨ra, s', al, lg, mt, ms, ml, nl', cur', cp, 0, ln, un, kd, fl⟩ = ⟨ra, s', al, lg, mt, ms, ml, nl', cur' + W, v, 0, cur', un, kd, fl⟩ by unfold Lx.step; simp only [hd]; rw [if_neg hv]; rfl] at hst
        have HS := Lib.hid hst
        have HD := Lib.hid hd
        have HR := Lib.hid (And.intro hbel (And.intro htab hx))
        clear hst hd hbel htab hx
        go_wp2_with fail
        refine HS.out.mono ?_
        rintro e w2 ⟨rfl, h2, g2⟩
        have hp2 := h2.lt
        have HQ2 := Lib.hid (And.intro h2 g2)
        clear h2 g2
        go_wp2_with fail
        refine (zd _ _ _ hpv (by omega) _ _ HD.out).mono ?_
        rintro e w3 ⟨rfl, m3, rfl⟩
        go_wp2_with (first | (go_at_call 21; refine (css_cp _ _ (w2.drewN m3) HQ2.out.1).mono ?_; rintro e w4 ⟨rfl, rfl⟩) | (go_at_call 22; refine (css_cur _ _ (w2.drewN m3) HQ2.out.1).mono ?_; rintro e w4 ⟨rfl, rfl⟩) | (go_at_call 23; refine (css_tok _ _ (w2.drewN m3) HQ2.out.1).mono ?_; rintro e w4 ⟨rfl, b4⟩))
        have hz2 : w.heap.size ≤ w2.heap.size := by omega
        have b5 : Below w.heap.size w w4 := (bdr (below_gb HR.out.1 HQ2.out.2 (by have := HR.out.2.2.lt; omega) hp) m3).trans (b4.mono hz2)
        have c5 := Css.kept (w := w2.drewN m3) HQ2.out.1 b4
        have z5 := b4.size
        have b6 := b5.alloc (by simp at z5; omega) (.cells #[.int .i32 0, .int .i32 cur', .int .u16 un, .int .u8 kd, .int .u8 fl] 85)
        have HQ := Lib.hid (And.intro (c5.alloc (.cells #[.int .i32 0, .int .i32 cur', .int .u16 un, .int .u8 kd, .int .u8 fl] 85)) (And.intro b6 (tabs_below HT.out b6 (by omega) (by omega))))
        clear c5 b5 b4 b6
        refine (css_nl _ _ _ HQ.out.1).mono ?_
        rintro e w6 ⟨rfl, rfl⟩
        go_wp2
        go_roundw
        case rel => exact ⟨cur' + W, nl', k + 1, by go_num, rfl, by go_num, by omega, _, HQ.out.1, rfl, rfl, rfl, rfl, hWW.2, by omega, by omega, HQ.out.2.1, hp, HQ.out.2.2⟩
        case measure => simp [intOf]; omega

theorem walk (a0 : ByteArray) (w0 : a0.size ≤ maxLen) (w : World) (hL : laidMetH Tryd.prog Rows.fnStepMatchesUTF8ModelAndCountsNewlinesRow.laid w) :
    Calls Tryd.prog 4 #[.string a0] w fun e w' => e = .returned (.bool true) ∧ Below w.heap.size w w' := by
  have ht : Lib.Utf8Tabs 0 1 w := utf8Tabs_of_readsT u8types u8extra (Pinned.utf8First_eq ▸ Lib.laidMet.reads hL (.tail _ (.head _))) (Lib.laidMet.reads hL (.head _))
  by_cases hl : a0.size ≤ 1048576
  · exact good a0 w hl ht
  · exact bad1 a0 w (by omega) w0

open Go.Lib
set_option maxRecDepth 100000 in
theorem contract (H : Type) (enc : TypeId × Value → H) (W : World) (base : Nat) (args : Array Value) (ds gs : List (DataW H)) (before : List MemPlace)
    (hval : ∀ (j : Nat) t v, Tryd.f4.params[j]? = some t → args[j]? = some v → Value.okWide Tryd.prog W .any base t v)
    (hW : DataW.Whole enc Tryd.prog Tryd.f4.params.toList Rows.fnStepMatchesUTF8ModelAndCountsNewlinesSpec.vars false W args.toList ds gs before) (hL : laidMetH Tryd.prog Rows.fnStepMatchesUTF8ModelAndCountsNewlinesRow.laid W) :
    Calls Tryd.prog 4 args W fun e W' => ∃ v, e = .returned v ∧ Rows.fnStepMatchesUTF8ModelAndCountsNewlinesSpec.post enc Tryd.prog Tryd.f4 false true false false W args v W' := by
  have hW' := hW
  obtain ⟨p, q, hA0, hV, rfl, hfz, hnd⟩ := hW
  have hA : DataW.TrodAll enc Tryd.prog W 0 (fun _ => true) true Tryd.f4.params.toList args.toList ds p := hA0
  rw [Tryd.params4] at hA hval
  obtain ⟨v0, vs0, d0, ds0, p0, q0, hargs, rfl, rfl, h0, r0⟩ := trodAll_cons hA
  obtain ⟨rfl, rfl, rfl⟩ := trodAll_nil r0
  obtain rfl : args = #[v0] := by cases args; simp_all
  obtain ⟨rfl, rfl⟩ := trodVars_none hV
  obtain ⟨a0, rfl, rfl, rfl, w0⟩ := open_string Tryd.underlying9 (hval 0 9 v0 rfl rfl) h0
  clear hA0
  simp only [List.append_nil] at hW'
  refine (walk a0 w0 W hL).mono fun e W' ⟨he, bel⟩ => ?_
  subst he
  exact ⟨_, rfl, _, _, _, [], _, [], hW', trodAll_mk1 (shut_bool Tryd.underlying4 _), (trodAll_cons_mk (shut_string Tryd.underlying9 w0) trodAll_mk0), rfl, bel.frame _, fun h => by cases h⟩


/-- a world for the witness: the settled one, the listed variables holding what their initialisers lay -/
noncomputable def laidWorld (os : Os) : World :=
  let w0 := World.holding Tryd.prog os ⟨#[], #[], []⟩
  let put (h : Array Obj) (g : Nat) (cs : Array Value) : Array Obj := h.modify g fun
    | .cells _ t frozen => .cells cs t frozen
    | o => o
  let h1 := put w0.heap 1 ((List.range 16).flatMap fun i => [Value.int .u8 (Lib.accLo i), Value.int .u8 (Lib.accHi i)]).toArray
  let h2 := put h1 0 (Lib.firstTab.map fun z => Value.int .u8 z).toArray
  { w0 with heap := h2 }


set_option maxRecDepth 1000000 in
theorem piece0 (os : Os) (args : Array Value) : LaidIn Tryd.prog ((laidWorld os).forCall (fun _ _ => 0) ⟨#[], args, []⟩).memory [("unicode/utf8.acceptRanges", Rows.laid_unicode_utf8_acceptRanges), ("unicode/utf8.first", Rows.laid_unicode_utf8_first)] [1, 0] :=
  LaidIn.of_run [1, 0] 8 (by kernel_rfl) (by kernel_rfl) (by kernel_rfl) (by kernel_rfl)
set_option maxRecDepth 1000000 in
theorem laid_met (os : Os) (args : Array Value) : laidMet Tryd.prog Rows.fnStepMatchesUTF8ModelAndCountsNewlinesRow.laid ((laidWorld os).forCall (fun _ _ => 0) ⟨#[], args, []⟩).memory :=
  (piece0 os args).met
theorem witness_row (os : Os) {H : Type} (enc : TypeId × Value → H) :
    (OpenSpec.ofChange Rows.fnStepMatchesUTF8ModelAndCountsNewlinesSpec).preRow enc Tryd.prog Tryd.f4 Rows.fnStepMatchesUTF8ModelAndCountsNewlinesRow.domain false Rows.fnStepMatchesUTF8ModelAndCountsNewlinesRow.laid ((laidWorld os).forCall (fun _ _ => 0) ⟨#[], #[.string ByteArray.empty], []⟩).memory #[.string ByteArray.empty] := by
  have hw : (DataW.whole enc Tryd.prog ((laidWorld os).forCall (fun _ _ => 0) ⟨#[], #[.string ByteArray.empty], []⟩).memory Tryd.f4.params.toList Rows.fnStepMatchesUTF8ModelAndCountsNewlinesSpec.vars false (#[.string ByteArray.empty] : Array Value).toList 8).map (fun x => (x.1, x.2.1)) =
      some ([.lit (.string [])], []) := by kernel_rfl
  obtain ⟨⟨x1, x2, x3⟩, hx, hx1⟩ := Option.map_eq_some_iff.1 hw
  simp only [Prod.mk.injEq] at hx1
  obtain ⟨rfl, rfl⟩ := hx1
  exact OpenSpec.preRow_of_cond 8 hx (by kernel_rfl) (fun k hk => by cases hk) (by kernel_rfl) (laid_met os _)

set_option maxRecDepth 100000 in
theorem lifted (os : Os) (started : os.Started) (H : Type) (enc : TypeId × Value → H) (F : Stop.Interp) :
    ReturnsInHanded {} Tryd.checked os 4 .any ((OpenSpec.ofChange Rows.fnStepMatchesUTF8ModelAndCountsNewlinesSpec).preRow enc Tryd.prog Tryd.f4 Rows.fnStepMatchesUTF8ModelAndCountsNewlinesRow.domain false Rows.fnStepMatchesUTF8ModelAndCountsNewlinesRow.laid) (((OpenSpec.ofChange Rows.fnStepMatchesUTF8ModelAndCountsNewlinesSpec).at F).post enc Tryd.prog Tryd.f4 false true false false) := by
  refine returnsInHanded_of_row (C := Tryd.checked) (s := OpenSpec.ofChange Rows.fnStepMatchesUTF8ModelAndCountsNewlinesSpec) own started (by kernel_rfl) Tryd.func4
    (witness_row_atRef (enc := enc) (C := Tryd.checked) false (laidWorld os) #[.string ByteArray.empty] rfl (by kernel_rfl) (by kernel_rfl) (by kernel_rfl) (witness_row os enc)) ?_
  intro W base args ds gs before hval hW _ _ _ hL _ _
  exact contract H enc W base args ds gs before hval hW hL

theorem said : Rows.FnStepMatchesUTF8ModelAndCountsNewlinesSaid :=
  OpenClaim.holds_of_cond 4 Tryd.f4 rfl rfl rfl rfl rfl rfl rfl ⟨rfl, rfl, rfl, rfl, rfl⟩ rfl rfl rfl rfl rfl (by kernel_rfl) Tryd.func4 (by kernel_rfl)
    (of_decide_eq_true (by kernel_rfl)) (by unfold Func.isWrapper; first | (rw [if_pos (by decide +kernel)]; kernel_rfl) | (rw [if_neg (by decide +kernel)]; exact ⟨rfl, rfl⟩))
    (fun os started H enc _ F => by rw [OpenClaim.pre_eq_preRow]; exact lifted os started H enc F)

/-- No parameter wants a stand-in; the program's own looks are off: what the card asks. -/
theorem plain7 (f : FuncId) (fn : Func) (hf : Tryd.pinned.checked.prog.funcNamed Rows.fnStepMatchesUTF8ModelAndCountsNewlinesRow.func = some f) (hfn : Tryd.pinned.checked.prog.funcs[f]? = some fn) :
    false = Tryd.pinned.checked.prog.looks [] ∧ ∀ (j : Nat) t, fn.params[j]? = some t → Tryd.pinned.checked.prog.wantsStandIn t = false := by
  obtain rfl : f = 4 := Option.some.inj ((show Tryd.prog.funcNamed Rows.fnStepMatchesUTF8ModelAndCountsNewlinesRow.func = some 4 by kernel_rfl).symm.trans hf) |>.symm
  obtain rfl : fn = Tryd.f4 := (Option.some.inj (Tryd.func4.symm.trans hfn)).symm
  refine ⟨by kernel_rfl, fun j t ht => ?_⟩
  rw [Tryd.params4] at ht
  have hm := Array.mem_of_getElem? ht
  have : t = 9 := by simpa using hm
  subst this
  exact (show Tryd.prog.wantsStandIn 9 = false by kernel_rfl)

/-- the statement: the tied card -/
theorem proved : Rows.FnStepMatchesUTF8ModelAndCountsNewlinesCardSaid :=
  Claim7.holds_tied_plain_at .later [] _ _ _ _ said (fun _ h => by cases h) (by kernel_rfl) (fun _ h => by cases h) fnStepMatchesUTF8ModelAndCountsNewlines_row_tie rfl ⟨rfl, rfl⟩ (by kernel_rfl) rfl plain7 (by kernel_rfl)
#print axioms proved
end Go.Proofs.YtlbpplkanogkgaaDoor.fnStepMatchesUTF8ModelAndCountsNewlines
