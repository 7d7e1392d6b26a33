/-
  For every text and position the law FnRangeOfIdentifierBounds returns true: where the position is the text's end, or an ASCII byte that no scan branch can take lies behind it, RangeOfIdentifier keeps the position as its start and its length is at least the plain name run there and at most the bytes left (outside its premise the law returns true too). The card ties the decoder's tables to the program's text.
-/
import Derived.Test.YtpgfepilblhpdaaDoorCards
import Derived.Test.YtpgfepilblhpdaaDoorTie
import Derived.WalkKit
import Derived.ProofKit
import Derived.OpenShut
import Derived.ShutString
import Derived.ChangeOld
import Derived.Below
import Derived.Deep.DeepHandedRow
import Derived.Deep.DeepWitnessRowRef
import Derived.Lib.LaidIn
import Derived.Lib.LaidSlice
import Derived.Lib.LaidU8
import Derived.PinnedBridge
import Derived.OpenVars
import Derived.Lib.LaidU8T
import Derived.PinnedBridge
import Derived.BigQuiet
import Derived.Test.YtpgfepilblhpdaaDoorRoi
namespace Go.Proofs.YtpgfepilblhpdaaDoor.fnRangeOfIdentifierBounds
open Go.ChangeShapes Go.WideShapes Go.ChangeAt Go.RowKit
open Go.ChangeMaps (open_string shut_string)
set_option linter.unusedVariables false

theorem own : ownKnob Tryd.prog.godebug = none := by kernel_rfl
theorem laidOut : laidOutB Tryd.prog = true := by kernel_rfl

def u8ren : Go.Shelf.Ren := ⟨fun n => n, fun | 119 => 104 | 138 => 106 | 139 => 107 | n => n, fun | 3 => 0 | 4 => 1 | n => n⟩
theorem u8types : U8Types Tryd.prog u8ren := ⟨Tryd.underlying5, Tryd.underlying104, Tryd.underlying106, Tryd.underlying107⟩
theorem u8extra : U8Extra Tryd.prog u8ren := ⟨by kernel_rfl, by kernel_rfl, by kernel_rfl, by kernel_rfl, by kernel_rfl, by kernel_rfl, by kernel_rfl⟩
theorem bytes_no (s : ByteArray) (n : Int) (w : World) (h : 1048576 < s.size) (hm : s.size ≤ maxLen) : Calls Tryd.prog 16 #[.string s, .int .i32 n] w fun r w' => r = .returned (.bool false) ∧ w = w' := by
  unfold maxLen at hm
  go_enter Tryd.func16, Tryd.ntmps16
  go_wp2
  go_ret
  exact ⟨rfl, rfl⟩
theorem bytes_yes (s : ByteArray) (n : Int) (w : World) (h : s.size ≤ 1048576) : Calls Tryd.prog 16 #[.string s, .int .i32 n] w fun r w' => r = .returned (.bool true) ∧ w = w' := by
  go_enter Tryd.func16, Tryd.ntmps16
  go_wp2
  go_ret
  exact ⟨rfl, rfl⟩
set_option maxRecDepth 100000 in
theorem bad1 (s : ByteArray) (n : Int) (w : World) (h : 1048576 < s.size) (hm : s.size ≤ maxLen) : Calls Tryd.prog 5 #[.string s, .int .i32 n] w fun e w' => e = .returned (.bool true) ∧ Below w.heap.size w w' := by
  go_enter Tryd.func5, Tryd.ntmps5
  go_wp2_with (go_at_call 16; refine (bytes_no _ _ _ h hm).mono ?_; rintro e w1 ⟨rfl, rfl⟩)
  go_ret
  exact ⟨rfl, Below.refl _ _⟩
set_option maxRecDepth 100000 in
theorem bad2 (s : ByteArray) (n : Int) (w : World) (h : s.size ≤ 1048576) (hm : -2147483648 ≤ n ∧ n ≤ 2147483647) (h2 : n < 0 ∨ (0 ≤ n ∧ (s.size : Int) < n)) : Calls Tryd.prog 5 #[.string s, .int .i32 n] w fun e w' => e = .returned (.bool true) ∧ Below w.heap.size w w' := by
  have hwn : wrap64 n = n := by unfold wrap64; omega
  clear hm
  rcases h2 with h2 | ⟨h0, h2⟩
  all_goals
    go_enter Tryd.func5, Tryd.ntmps5
    go_wp2_with (go_at_call 16; refine (bytes_yes _ _ _ (by omega)).mono ?_; rintro e w1 ⟨rfl, rfl⟩)
    go_ret
    exact ⟨rfl, Below.refl _ _⟩
set_option maxRecDepth 100000 in
set_option maxHeartbeats 2000000 in
theorem stop_any (T : ByteArray) (w : World) (hz : T.size ≤ 1048576) : Calls Tryd.prog 17 #[.string T] w fun e w' => ((e = .returned (.bool true) ∧ ∃ K, StopAt T K) ∨ e = .returned (.bool false)) ∧ w' = w := by
  go_enter Tryd.func17, Tryd.ntmps17
  go_wp2_with fail
  go_loopw [2, 3] (fun v a wr => v = .bool false ∧ ∃ k : Nat, k ≤ T.size ∧ a = .int .i64 k ∧ wr = w) (fun _ a _ => T.size - (intOf a).toNat)
  case atStart => exact ⟨rfl, 0, Nat.zero_le _, rfl, rfl⟩
  case round =>
    obtain ⟨rfl, k, hk, rfl, rfl⟩ := hrel
    rcases (show k = T.size ∨ k < T.size by omega) with rfl | hlt
    · go_wp2
      go_ret
      exact ⟨.inr rfl, rfl⟩
    · have eb := byteAt_get T k hlt
      obtain ⟨b, hb⟩ : ∃ b, byteAt T k = b := ⟨_, rfl⟩
      rw [hb] at eb
      have HB := Lib.hid hb
      clear hb
      have HNC := Lib.hid (fun w => ncb3_any b w)
      have HWS := Lib.hid (fun w => wsb3_any b w)
      by_cases h128 : b < 128
      · cases hnc : nameCont (b : Int)
        · have HNC' := Lib.hid (fun w => by have := HNC.out w; rw [hnc] at this; exact this)
          by_cases h92 : b = 92
          · clear hnc HNC HWS
            subst h92
            go_wp2_with (first | (go_at_call 26; refine (HNC'.out _).mono ?_; rintro e w5 ⟨rfl, rfl⟩))
            go_roundw
            case rel => exact ⟨by first | rfl | trivial, k + 1, by omega, by go_num, by first | rfl | trivial⟩
            case measure => simp [intOf]; omega
          · have t1 : ((b : Int) == 92) = false := beq_eq_false_iff_ne.2 (by omega)
            cases hws : isWS (b : Int)
            · have HWS' := Lib.hid (fun w => by have := HWS.out w; rw [hws] at this; exact this)
              have HS := Lib.hid (show StopAt T k from ⟨hlt, by unfold stopB; rw [HB.out, hnc, hws]; simp [h128, h92]⟩)
              clear hnc hws HNC HWS
              go_wp2_with (first | (go_at_call 26; refine (HNC'.out _).mono ?_; rintro e w5 ⟨rfl, rfl⟩) | (go_at_call 27; refine (HWS'.out _).mono ?_; rintro e w6 ⟨rfl, rfl⟩))
              go_ret
              exact ⟨.inl ⟨rfl, k, HS.out⟩, rfl⟩
            · have HWS' := Lib.hid (fun w => by have := HWS.out w; rw [hws] at this; exact this)
              clear hnc hws HNC HWS
              go_wp2_with (first | (go_at_call 26; refine (HNC'.out _).mono ?_; rintro e w5 ⟨rfl, rfl⟩) | (go_at_call 27; refine (HWS'.out _).mono ?_; rintro e w6 ⟨rfl, rfl⟩))
              go_roundw
              case rel => exact ⟨by first | rfl | trivial, k + 1, by omega, by go_num, by first | rfl | trivial⟩
              case measure => simp [intOf]; omega
        · have HNC' := Lib.hid (fun w => by have := HNC.out w; rw [hnc] at this; exact this)
          clear hnc HNC HWS
          go_wp2_with (first | (go_at_call 26; refine (HNC'.out _).mono ?_; rintro e w5 ⟨rfl, rfl⟩))
          go_roundw
          case rel => exact ⟨by first | rfl | trivial, k + 1, by omega, by go_num, by first | rfl | trivial⟩
          case measure => simp [intOf]; omega
      · have h128' : 128 ≤ b := by omega
        clear h128 HNC HWS
        go_wp2_with fail
        go_roundw
        case rel => exact ⟨by first | rfl | trivial, k + 1, by omega, by go_num, by first | rfl | trivial⟩
        case measure => simp [intOf]; omega
set_option maxRecDepth 100000 in
set_option maxHeartbeats 2000000 in
theorem run_any (s : ByteArray) (st : Nat) (w : World) (hst : st ≤ s.size) (hz : s.size ≤ 1048576) : Calls Tryd.prog 19 #[.string s, .int .i64 st] w fun e w' => (∃ r : Nat, e = .returned (.int .i64 r) ∧ Run s st r) ∧ w' = w := by
  go_enter Tryd.func19, Tryd.ntmps19
  go_wp2_with fail
  go_loopw [5] (fun a wr => ∃ r : Nat, a = .int .i64 (st + r : Nat) ∧ wr = w ∧ st + r ≤ s.size ∧ Hid (Run s st r)) (fun a _ => s.size - (intOf a).toNat)
  case atStart => exact ⟨0, by simp, rfl, by omega, Lib.hid ⟨by omega, fun j hj => by omega⟩⟩
  case round =>
    obtain ⟨r, rfl, rfl, hr, HR⟩ := hrel
    obtain ⟨k, hk⟩ : ∃ k, st + r = k := ⟨_, rfl⟩
    rw [hk] at hr
    have hkr : ((k : Int) - (st : Int)) = (r : Int) := by omega
    have HK := Lib.hid hk
    rw [hk]
    clear hk
    rcases (show k = s.size ∨ k < s.size by omega) with rfl | hlt
    · go_wp2
      go_ret
      exact ⟨⟨r, by first | rfl | (rw [← hkr]; rfl) | go_num, HR.out⟩, rfl⟩
    · have eb := byteAt_get s k hlt
      obtain ⟨b, hb⟩ : ∃ b, byteAt s k = b := ⟨_, rfl⟩
      rw [hb] at eb
      have HB := Lib.hid hb
      clear hb
      have HNC := Lib.hid (fun w => ncb3_any b w)
      cases hnc : nameCont (b : Int)
      · have HNC' := Lib.hid (fun w => by have := HNC.out w; rw [hnc] at this; exact this)
        clear hnc HNC
        go_wp2_with (first | (go_at_call 26; refine (HNC'.out _).mono ?_; rintro e w5 ⟨rfl, rfl⟩))
        go_ret
        exact ⟨⟨r, by first | rfl | (rw [← hkr]; rfl) | go_num, HR.out⟩, rfl⟩
      · have HNC' := Lib.hid (fun w => by have := HNC.out w; rw [hnc] at this; exact this)
        have HR2 : Hid (Run s st (r + 1)) := Lib.hid ⟨by have := HK.out; omega, fun j hj => by
          rcases (show j = r ∨ j < r by omega) with rfl | hl
          · rw [HK.out, HB.out]; exact hnc
          · exact HR.out.2 j hl⟩
        clear hnc HNC HR
        go_wp2_with (first | (go_at_call 26; refine (HNC'.out _).mono ?_; rintro e w5 ⟨rfl, rfl⟩))
        go_roundw
        case rel => exact ⟨r + 1, by have := HK.out; go_num, by first | rfl | trivial, by have := HK.out; omega, HR2⟩
        case measure => simp [intOf]; omega
theorem rb_start' (s : ByteArray) (st : Nat) (w : World) : Rb st w.heap.size w (((w.alloc (.cells (cSrc s) 59)).alloc (.cells #[.int .i32 st] 61)).alloc (.cells #[.int .i32 0, .int .i32 0] 63)) := rb_start s st w
set_option maxRecDepth 100000 in
set_option maxHeartbeats 2000000 in
theorem roi_end (s : ByteArray) (st : Nat) (T : ByteArray) (w : World) (hT : s.extract st s.size = T) (hst : st ≤ s.size) (hz : s.size ≤ 1048576) (h0 : T.size = 0) :
    Calls Tryd.prog 28 #[.agg (cSrc s), .agg #[.int .i32 st]] w fun e w' => e = .returned (.agg #[.int .i32 st, .int .i32 0]) ∧ Below w.heap.size w w' := by
  have k3 := cSrc3 s
  have e1 : (0 : Int) ≤ (st : Int) := by omega
  have e2 : (st : Int) ≤ (s.size : Int) := by omega
  go_enter Tryd.func28, Tryd.ntmps28
  go_upto_region 2 with fail
  clear hT
  have hS := rb_start' s st w
  generalize World.alloc (World.alloc (World.alloc _ _) _) _ = W0 at hS ⊢
  have t0 : ((T.size : Int) == 0) = true := by rw [h0]; rfl
  have cl : W0.cell? ⟨w.heap.size + 1, 0, none⟩ = some (.int .i32 st) := hS.1.cell 0
  have HS := Lib.hid hS
  clear hS k3 e1 e2
  go_wp2_with (refine wpList_store_blk rfl 63 _ _ rfl (w.heap.size + 1 + 1) #[.int .i32 0, .int .i32 0] (c2 st 0) HS.out.2.1 rfl ?_ rfl (c2_info _ _) (c2_one _ _) ?_; rotate_left; intro w5 hb5 hg5)
  case refine_1 => unfold c2; go_simp
  refine bodyPost_ret (v := .agg (c2 st 0)) (results_cell_row (d := _) Tryd.results28 _ _ (w.heap.size + 1 + 1) 63 _ (0, 0) (by rfl) hb5 Tryd.underlying63 rfl (c2_info _ _)) rfl ?_
  exact ⟨rfl, HS.out.2.2.grown hg5 (by have := HS.out.1.lt; omega) (fun x e => by cases e; omega)⟩
/-- the export: start and length -/
theorem zzr_any (s : ByteArray) (st : Nat) (w : World) (P : Nat → Prop) (hr : Calls Tryd.prog 28 #[.agg (cSrc s), .agg #[.int .i32 st]] w fun e w' => ∃ L : Nat, e = .returned (.agg #[.int .i32 st, .int .i32 L]) ∧ P L ∧ Below w.heap.size w w') :
    Calls Tryd.prog 18 #[.string s, .int .i32 st] w fun e w' => ∃ L : Nat, e = .returned (.tuple #[.int .i32 st, .int .i32 L]) ∧ P L ∧ Below w.heap.size w w' := by
  have HR := Lib.hid hr
  clear hr
  go_enter Tryd.func18, Tryd.ntmps18
  go_wp2_with (refine wpList_build rfl 59 _ rfl [(2, .string s)] rfl (cSrc s) (cBuild47 s) ?_)
  refine HR.out.mono ?_
  rintro e w1 ⟨L, rfl, hP, b1⟩
  have H := Lib.hid (And.intro hP b1)
  clear hP b1
  go_wp2_with fail
  go_region
  go_wp2
  go_ret2
  exact ⟨L, rfl, H.out.1, (H.out.2.alloc H.out.2.size _).drew⟩
theorem run_T {s : ByteArray} {st r : Nat} {T : ByteArray} (hT : s.extract st s.size = T) (hst : st ≤ s.size) (h : Run s st r) : Run T 0 r := by
  have hz : T.size = s.size - st := by rw [← hT]; simp
  obtain ⟨h1, h2⟩ := h
  refine ⟨by omega, fun j hj => ?_⟩
  have := h2 j hj
  unfold byteAt at this ⊢
  rwa [Nat.zero_add, ← hT, ext_get!]
set_option maxRecDepth 100000 in
set_option maxHeartbeats 2000000 in
theorem good (s : ByteArray) (st : Nat) (w : World) (hst : st ≤ s.size) (hz : s.size ≤ 1048576) (ht : Lib.Utf8Tabs 0 1 w) : Calls Tryd.prog 5 #[.string s, .int .i32 st] w fun e w' => e = .returned (.bool true) ∧ Below w.heap.size w w' := by
  have HT := Lib.hid ht
  clear ht
  obtain ⟨T, hT⟩ : ∃ T, s.extract st s.size = T := ⟨_, rfl⟩
  have hTz : T.size = s.size - st := by rw [← hT]; simp
  have w0 : 1 < w.heap.size := World.block_lt_of_cell? w ⟨1, 0, none⟩ (HT.out.2 0 (by decide)).1
  have HTT := Lib.hid hT
  have e1 : (0 : Int) ≤ (st : Int) := by omega
  have e2 : (st : Int) ≤ (s.size : Int) := by omega
  have e3 : decide ((s.size : Int) < (st : Int)) = false := decide_eq_false (by omega)
  have e4 : decide (s.size < st) = false := decide_eq_false (by omega)
  have hws : wrap64 (st : Int) = (st : Int) := by unfold wrap64; omega
  have HTZ := Lib.hid hTz
  clear hTz
  clear hT
  rcases (show st = s.size ∨ st < s.size by omega) with hend | hlt
  · subst hend
    have HE := Lib.hid (fun w => zzr_any s s.size w (fun L => L = 0) ((roi_end s s.size T w HTT.out hst hz (by have := HTZ.out; omega)).mono (fun e w' h => ⟨0, h.1, rfl, h.2⟩)))
    go_enter Tryd.func5, Tryd.ntmps5
    go_wp2_with fail
    refine (bytes_yes _ _ _ hz).mono ?_
    rintro e w1 ⟨rfl, rfl⟩
    go_wp2_with fail
    refine (HE.out _).mono ?_
    rintro e w2 ⟨L, rfl, rfl, b2⟩
    have HB := Lib.hid b2
    clear b2
    go_wp2_with fail
    refine (run_any s s.size _ hst hz).mono ?_
    rintro e w3 ⟨⟨r, rfl, hr⟩, rfl⟩
    have hr0 : r = 0 := by have := hr.1; omega
    subst hr0
    clear hr
    go_wp2_with fail
    go_ret
    exact ⟨rfl, HB.out⟩
  · have hT' := HTT.out
    go_enter Tryd.func5, Tryd.ntmps5
    go_wp2_with fail
    refine (bytes_yes _ _ _ hz).mono ?_
    rintro e w1 ⟨rfl, rfl⟩
    go_wp2_with fail
    refine (stop_any T _ (by have := HTZ.out; omega)).mono ?_
    rintro e w2 ⟨⟨rfl, K, hK⟩ | rfl, rfl⟩
    · have HE := Lib.hid (fun (ww : World) (htt : Lib.Utf8Tabs 0 1 ww) => zzr_any s st ww (fun L => L ≤ K ∧ ∀ r, Run T 0 r → r ≤ L) ((roi_any s st T K ww HTT.out hst hz hK htt).mono (fun e w' ⟨L, h1, h2, h3, h4⟩ => ⟨L, h1, ⟨h2, h3⟩, h4⟩)))
      have HK := Lib.hid hK
      clear hK
      go_wp2_with fail
      refine (HE.out _ HT.out).mono ?_
      rintro e w2 ⟨L, rfl, ⟨hL1, hL2⟩, b2⟩
      have HB := Lib.hid (And.intro hL2 b2)
      have hKz : L ≤ s.size - st := by have := HK.out.1; have := HTZ.out; omega
      have hwL : wrap64 (L : Int) = (L : Int) := by unfold wrap64; omega
      have hKi : (L : Int) ≤ (s.size : Int) - (st : Int) := by omega
      clear hL2 b2 hL1 hKz
      go_wp2_with fail
      refine (run_any s st _ hst hz).mono ?_
      rintro e w3 ⟨⟨r, rfl, hr⟩, rfl⟩
      have hrL : r ≤ L := HB.out.1 r (run_T HTT.out hst hr)
      have hrLi : (r : Int) ≤ (L : Int) := by omega
      clear hr
      go_wp2_with fail
      go_ret
      exact ⟨by first | rfl | exact ret_bool (by simp; omega), HB.out.2⟩
    · go_wp2_with fail
      go_ret
      exact ⟨rfl, Below.refl _ _⟩

theorem walk (a0 : ByteArray) (a1 : Int) (w0 : a0.size ≤ maxLen) (w1 : (Lit.int .i32 a1).wf = true) (w : World) (hL : laidMetH Tryd.prog Rows.fnRangeOfIdentifierBoundsRow.laid w) :
    Calls Tryd.prog 5 #[.string a0, .int .i32 a1] w fun e w' => e = .returned (.bool true) ∧ Below w.heap.size w w' := by
  have ht : Lib.Utf8Tabs 0 1 w := utf8Tabs_of_readsT u8types u8extra (Pinned.utf8First_eq ▸ Lib.laidMet.reads hL (.tail _ (.head _))) (Lib.laidMet.reads hL (.head _))
  have hm : -2147483648 ≤ a1 ∧ a1 ≤ 2147483647 := by simpa [Lit.wf, IntKind.min, IntKind.max, IntKind.signed, IntKind.bits] using w1
  by_cases hl : a0.size ≤ 1048576
  · by_cases h3 : 0 ≤ a1 ∧ a1 ≤ (a0.size : Int)
    · obtain ⟨n, rfl⟩ := Int.eq_ofNat_of_zero_le h3.1
      exact good a0 n w (by omega) hl ht
    · exact bad2 a0 a1 w hl hm (by omega)
  · exact bad1 a0 a1 w (by omega) w0

open Go.Lib
set_option maxRecDepth 100000 in
theorem contract (H : Type) (enc : TypeId × Value → H) (W : World) (base : Nat) (args : Array Value) (ds gs : List (DataW H)) (before : List MemPlace)
    (hval : ∀ (j : Nat) t v, Tryd.f5.params[j]? = some t → args[j]? = some v → Value.okWide Tryd.prog W .any base t v)
    (hW : DataW.Whole enc Tryd.prog Tryd.f5.params.toList Rows.fnRangeOfIdentifierBoundsSpec.vars false W args.toList ds gs before) (hL : laidMetH Tryd.prog Rows.fnRangeOfIdentifierBoundsRow.laid W) :
    Calls Tryd.prog 5 args W fun e W' => ∃ v, e = .returned v ∧ Rows.fnRangeOfIdentifierBoundsSpec.post enc Tryd.prog Tryd.f5 false true false false W args v W' := by
  have hW' := hW
  obtain ⟨p, q, hA0, hV, rfl, hfz, hnd⟩ := hW
  have hA : DataW.TrodAll enc Tryd.prog W 0 (fun _ => true) true Tryd.f5.params.toList args.toList ds p := hA0
  rw [Tryd.params5] at hA hval
  obtain ⟨v0, vs0, d0, ds0, p0, q0, hargs, rfl, rfl, h0, r0⟩ := trodAll_cons hA
  obtain ⟨v1, vs1, d1, ds1, p1, q1, rfl, rfl, rfl, h1, r1⟩ := trodAll_cons r0
  obtain ⟨rfl, rfl, rfl⟩ := trodAll_nil r1
  obtain rfl : args = #[v0, v1] := by cases args; simp_all
  obtain ⟨rfl, rfl⟩ := trodVars_none hV
  obtain ⟨a0, rfl, rfl, rfl, w0⟩ := open_string Tryd.underlying9 (hval 0 9 v0 rfl rfl) h0
  obtain ⟨a1, rfl, rfl, rfl, w1⟩ := open_int Tryd.underlying21 (hval 1 21 v1 rfl rfl) h1
  clear hA0
  simp only [List.append_nil] at hW'
  refine (walk a0 a1 w0 w1 W hL).mono fun e W' ⟨he, bel⟩ => ?_
  subst he
  exact ⟨_, rfl, _, _, _, [], _, [], hW', trodAll_mk1 (shut_bool Tryd.underlying4 _), (trodAll_cons_mk (shut_string Tryd.underlying9 w0) (trodAll_cons_mk (shut_int Tryd.underlying21 w1) trodAll_mk0)), rfl, bel.frame _, fun h => by cases h⟩


/-- a world for the witness: the settled one, the listed variables holding what their initialisers lay -/
noncomputable def laidWorld (os : Os) : World :=
  let w0 := World.holding Tryd.prog os ⟨#[], #[], []⟩
  let put (h : Array Obj) (g : Nat) (cs : Array Value) : Array Obj := h.modify g fun
    | .cells _ t frozen => .cells cs t frozen
    | o => o
  let h1 := put w0.heap 1 ((List.range 16).flatMap fun i => [Value.int .u8 (Lib.accLo i), Value.int .u8 (Lib.accHi i)]).toArray
  let h2 := put h1 0 (Lib.firstTab.map fun z => Value.int .u8 z).toArray
  { w0 with heap := h2 }


set_option maxRecDepth 1000000 in
theorem piece0 (os : Os) (args : Array Value) : LaidIn Tryd.prog ((laidWorld os).forCall (fun _ _ => 0) ⟨#[], args, []⟩).memory [("unicode/utf8.acceptRanges", Rows.laid_unicode_utf8_acceptRanges), ("unicode/utf8.first", Rows.laid_unicode_utf8_first)] [1, 0] :=
  LaidIn.of_run [1, 0] 8 (by kernel_rfl) (by kernel_rfl) (by kernel_rfl) (by kernel_rfl)
set_option maxRecDepth 1000000 in
theorem laid_met (os : Os) (args : Array Value) : laidMet Tryd.prog Rows.fnRangeOfIdentifierBoundsRow.laid ((laidWorld os).forCall (fun _ _ => 0) ⟨#[], args, []⟩).memory :=
  (piece0 os args).met
theorem witness_row (os : Os) {H : Type} (enc : TypeId × Value → H) :
    (OpenSpec.ofChange Rows.fnRangeOfIdentifierBoundsSpec).preRow enc Tryd.prog Tryd.f5 Rows.fnRangeOfIdentifierBoundsRow.domain false Rows.fnRangeOfIdentifierBoundsRow.laid ((laidWorld os).forCall (fun _ _ => 0) ⟨#[], #[.string ByteArray.empty, .int .i32 0], []⟩).memory #[.string ByteArray.empty, .int .i32 0] := by
  have hw : (DataW.whole enc Tryd.prog ((laidWorld os).forCall (fun _ _ => 0) ⟨#[], #[.string ByteArray.empty, .int .i32 0], []⟩).memory Tryd.f5.params.toList Rows.fnRangeOfIdentifierBoundsSpec.vars false (#[.string ByteArray.empty, .int .i32 0] : Array Value).toList 8).map (fun x => (x.1, x.2.1)) =
      some ([.lit (.string []), .lit (.int .i32 0)], []) := by kernel_rfl
  obtain ⟨⟨x1, x2, x3⟩, hx, hx1⟩ := Option.map_eq_some_iff.1 hw
  simp only [Prod.mk.injEq] at hx1
  obtain ⟨rfl, rfl⟩ := hx1
  exact OpenSpec.preRow_of_cond 8 hx (by kernel_rfl) (fun k hk => by cases hk) (by kernel_rfl) (laid_met os _)

set_option maxRecDepth 100000 in
theorem lifted (os : Os) (started : os.Started) (H : Type) (enc : TypeId × Value → H) (F : Stop.Interp) :
    ReturnsInHanded {} Tryd.checked os 5 .any ((OpenSpec.ofChange Rows.fnRangeOfIdentifierBoundsSpec).preRow enc Tryd.prog Tryd.f5 Rows.fnRangeOfIdentifierBoundsRow.domain false Rows.fnRangeOfIdentifierBoundsRow.laid) (((OpenSpec.ofChange Rows.fnRangeOfIdentifierBoundsSpec).at F).post enc Tryd.prog Tryd.f5 false true false false) := by
  refine returnsInHanded_of_row (C := Tryd.checked) (s := OpenSpec.ofChange Rows.fnRangeOfIdentifierBoundsSpec) own started (by kernel_rfl) Tryd.func5
    (witness_row_atRef (enc := enc) (C := Tryd.checked) false (laidWorld os) #[.string ByteArray.empty, .int .i32 0] rfl (by kernel_rfl) (by kernel_rfl) (by kernel_rfl) (witness_row os enc)) ?_
  intro W base args ds gs before hval hW _ _ _ hL _ _
  exact contract H enc W base args ds gs before hval hW hL

theorem said : Rows.FnRangeOfIdentifierBoundsSaid :=
  OpenClaim.holds_of_cond 5 Tryd.f5 rfl rfl rfl rfl rfl rfl rfl ⟨rfl, rfl, rfl, rfl, rfl⟩ rfl rfl rfl rfl rfl (by kernel_rfl) Tryd.func5 (by kernel_rfl)
    (of_decide_eq_true (by kernel_rfl)) (by unfold Func.isWrapper; first | (rw [if_pos (by decide +kernel)]; kernel_rfl) | (rw [if_neg (by decide +kernel)]; exact ⟨rfl, rfl⟩))
    (fun os started H enc _ F => by rw [OpenClaim.pre_eq_preRow]; exact lifted os started H enc F)

/-- No parameter wants a stand-in; the program's own looks are off: what the card asks. -/
theorem plain7 (f : FuncId) (fn : Func) (hf : Tryd.pinned.checked.prog.funcNamed Rows.fnRangeOfIdentifierBoundsRow.func = some f) (hfn : Tryd.pinned.checked.prog.funcs[f]? = some fn) :
    false = Tryd.pinned.checked.prog.looks [] ∧ ∀ (j : Nat) t, fn.params[j]? = some t → Tryd.pinned.checked.prog.wantsStandIn t = false := by
  obtain rfl : f = 5 := Option.some.inj ((show Tryd.prog.funcNamed Rows.fnRangeOfIdentifierBoundsRow.func = some 5 by kernel_rfl).symm.trans hf) |>.symm
  obtain rfl : fn = Tryd.f5 := (Option.some.inj (Tryd.func5.symm.trans hfn)).symm
  refine ⟨by kernel_rfl, fun j t ht => ?_⟩
  rw [Tryd.params5] at ht
  have hm := Array.mem_of_getElem? ht
  have : t = 9 ∨ t = 21 := by simpa using hm
  rcases this with rfl | rfl
  · exact (show Tryd.prog.wantsStandIn 9 = false by kernel_rfl)
  · exact (show Tryd.prog.wantsStandIn 21 = false by kernel_rfl)

/-- the statement: the tied card -/
theorem proved : Rows.FnRangeOfIdentifierBoundsCardSaid :=
  Claim7.holds_tied_plain_at .later [] _ _ _ _ said (fun _ h => by cases h) (by kernel_rfl) (fun _ h => by cases h) fnRangeOfIdentifierBounds_row_tie rfl ⟨rfl, rfl⟩ (by kernel_rfl) rfl plain7 (by kernel_rfl)
#print axioms proved
end Go.Proofs.YtpgfepilblhpdaaDoor.fnRangeOfIdentifierBounds
