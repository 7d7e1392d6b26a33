/-
  For every text the law FnTokenizeTilesInputWithoutComments returns true: where no slash, backslash, quote or opening parenthesis lies in the text, the css tokens tile it from its start (or from behind a leading byte order mark) to its end, none is empty or of a kind that needs those bytes, there are no comments, and the line count is the newline count plus one (outside its premise the law returns true too). The card ties the decoder's tables to the program's text.
-/
import Derived.Test.YtlbpplkanogkgaaDoorCards
import Derived.Test.YtlbpplkanogkgaaDoorTie
import Derived.WalkKit
import Derived.ProofKit
import Derived.OpenShut
import Derived.ShutString
import Derived.ChangeOld
import Derived.Below
import Derived.Deep.DeepHandedRow
import Derived.Deep.DeepWitnessRowRef
import Derived.Lib.LaidIn
import Derived.Lib.LaidSlice
import Derived.Lib.LaidU8
import Derived.PinnedBridge
import Derived.OpenVars
import Derived.Lib.LaidU8T
import Derived.PinnedBridge
import Derived.BigQuiet
import Derived.Test.YtlbpplkanogkgaaDoorCssTkz
namespace Go.Proofs.YtlbpplkanogkgaaDoor.fnTokenizeTilesInputWithoutComments
open Go.ChangeShapes Go.WideShapes Go.ChangeAt Go.RowKit
open Go.ChangeMaps (open_string shut_string)
set_option linter.unusedVariables false

theorem own : ownKnob Tryd.prog.godebug = none := by kernel_rfl
theorem laidOut : laidOutB Tryd.prog = true := by kernel_rfl

def u8ren : Go.Shelf.Ren := ⟨fun n => n, fun | 119 => 165 | 138 => 167 | 139 => 168 | n => n, fun | 3 => 0 | 4 => 1 | n => n⟩
theorem u8types : U8Types Tryd.prog u8ren := ⟨Tryd.underlying5, Tryd.underlying165, Tryd.underlying167, Tryd.underlying168⟩
theorem u8extra : U8Extra Tryd.prog u8ren := ⟨by kernel_rfl, by kernel_rfl, by kernel_rfl, by kernel_rfl, by kernel_rfl, by kernel_rfl, by kernel_rfl⟩
theorem bytes_no (s : ByteArray) (r : Bool) (w : World) (h : 1048576 < s.size) (hm : s.size ≤ maxLen) : Calls Tryd.prog 35 #[.string s, .bool r] w fun e w' => e = .returned (.bool false) ∧ w = w' := by
  unfold maxLen at hm
  go_enter Tryd.func35, Tryd.ntmps35
  go_wp2
  go_ret
  exact ⟨rfl, rfl⟩
theorem bytes_yes (s : ByteArray) (r : Bool) (w : World) (h : s.size ≤ 1048576) : Calls Tryd.prog 35 #[.string s, .bool r] w fun e w' => e = .returned (.bool true) ∧ w = w' := by
  go_enter Tryd.func35, Tryd.ntmps35
  go_wp2
  go_ret
  exact ⟨rfl, rfl⟩
set_option maxRecDepth 100000 in
theorem bad1 (s : ByteArray) (r : Bool) (w : World) (h : 1048576 < s.size) (hm : s.size ≤ maxLen) : Calls Tryd.prog 7 #[.string s, .bool r] w fun e w' => e = .returned (.bool true) ∧ Below w.heap.size w w' := by
  go_enter Tryd.func7, Tryd.ntmps7
  go_wp2_with (go_at_call 35; refine (bytes_no _ _ _ h hm).mono ?_; rintro e w1 ⟨rfl, rfl⟩)
  go_ret
  exact ⟨rfl, Below.refl _ _⟩
set_option maxRecDepth 100000 in
theorem sb_yes (c : Nat) (w : World) (h : c ≠ 47 ∧ c ≠ 92 ∧ c ≠ 34 ∧ c ≠ 39 ∧ c ≠ 40) : Calls Tryd.prog 36 #[.int .u8 c] w fun e w' => e = .returned (.bool true) ∧ w = w' := by
  have t1 : ((c : Int) == 47) = false := beq_eq_false_iff_ne.2 (by omega)
  have t2 : ((c : Int) == 92) = false := beq_eq_false_iff_ne.2 (by omega)
  have t3 : ((c : Int) == 34) = false := beq_eq_false_iff_ne.2 (by omega)
  have t4 : ((c : Int) == 39) = false := beq_eq_false_iff_ne.2 (by omega)
  have t5 : ((c : Int) == 40) = false := beq_eq_false_iff_ne.2 (by omega)
  clear h
  go_enter Tryd.func36, Tryd.ntmps36
  go_wp2
  go_ret
  exact ⟨rfl, rfl⟩
set_option maxRecDepth 100000 in
theorem sb_not (c : Nat) (w : World) (h : ¬ (c ≠ 47 ∧ c ≠ 92 ∧ c ≠ 34 ∧ c ≠ 39 ∧ c ≠ 40)) : Calls Tryd.prog 36 #[.int .u8 c] w fun e w' => e = .returned (.bool false) ∧ w = w' := by
  rcases (show c = 47 ∨ c = 92 ∨ c = 34 ∨ c = 39 ∨ c = 40 by omega) with rfl | rfl | rfl | rfl | rfl
  all_goals
    clear h
    go_enter Tryd.func36, Tryd.ntmps36
    go_wp2
    go_ret
    exact ⟨rfl, rfl⟩
set_option maxRecDepth 100000 in
theorem cnl_any (s : ByteArray) (w : World) (h : s.size ≤ 1048576) : Calls Tryd.prog 38 #[.string s] w fun e w' => e = .returned (.int .i64 (cntNL s s.size)) ∧ w' = w := by
  go_enter Tryd.func38, Tryd.ntmps38
  go_wp2_with fail
  go_loopw [3, 4] (fun a b wr => ∃ k m : Nat, k ≤ s.size ∧ m ≤ k ∧ Hid (cntNL s k = m) ∧ a = .int .i64 m ∧ b = .int .i64 k ∧ wr = w) (fun _ b _ => s.size - (intOf b).toNat)
  case atStart => exact ⟨0, 0, Nat.zero_le _, Nat.le_refl _, Lib.hid rfl, rfl, rfl, rfl⟩
  case round =>
    obtain ⟨k, m, hk, hm, hc, rfl, rfl, rfl⟩ := hrel
    rcases (show k = s.size ∨ k < s.size by omega) with rfl | hlt
    · go_wp2
      go_ret
      exact ⟨by rw [hc.out]; rfl, rfl⟩
    · have eb := byteAt_get s k hlt
      obtain ⟨b, hb⟩ : ∃ b, byteAt s k = b := ⟨_, rfl⟩
      rw [hb] at eb
      have hs : Hid (cntNL s (k + 1) = m + (if b = 10 then 1 else 0)) := Lib.hid (by rw [cntNL, hc.out, hb])
      clear hb
      by_cases h10 : b = 10
      · subst h10
        go_wp2
        go_roundw
        case rel => exact ⟨k + 1, m + 1, by omega, by omega, Lib.hid hs.out, by go_num, by go_num, by first | rfl | trivial⟩
        case measure => simp [intOf]; omega
      · have t1 : ((b : Int) == 10) = false := beq_eq_false_iff_ne.2 (by omega)
        go_wp2
        go_roundw
        case rel => exact ⟨k + 1, m, by omega, by omega, Lib.hid (by rw [hs.out, if_neg h10]; rfl), by first | rfl | trivial, by go_num, by first | rfl | trivial⟩
        case measure => simp [intOf]; omega
theorem bdr {B : Nat} {a w : World} (h : Below B a w) (m : Nat) : Below B a (w.drewN m) := ⟨h.os, h.tape, h.output, h.size, h.block⟩
theorem kd_ok {kd : Nat} (h : okKd kd = true) : kd < 39 ∧ kd ≠ 0 ∧ kd ≠ 2 ∧ kd ≠ 3 ∧ kd ≠ 24 ∧ kd ≠ 27 ∧ kd ≠ 33 ∧ kd ≠ 36 ∧ kd ≠ 37 := by
  unfold okKd at h
  simp only [Bool.and_eq_true, Bool.not_eq_true', decide_eq_true_eq, decide_eq_false_iff_not, not_or] at h
  omega
set_option maxRecDepth 100000 in
set_option maxHeartbeats 4000000 in
theorem good (s : ByteArray) (r : Bool) (w : World) (h : s.size ≤ 1048576) (ht : Lib.Utf8Tabs 0 1 w) : Calls Tryd.prog 7 #[.string s, .bool r] w fun e w' => e = .returned (.bool true) ∧ Below w.heap.size w w' := by
  have HT := Lib.hid ht
  clear ht
  go_enter Tryd.func7, Tryd.ntmps7
  go_wp2_with fail
  refine (bytes_yes _ _ _ h).mono ?_
  rintro e w1 ⟨rfl, rfl⟩
  go_wp2_with fail
  go_loopw [4, 5] (fun v a wr => v = .bool false ∧ ∃ k : Nat, k ≤ s.size ∧ a = .int .i64 k ∧ wr = w ∧ Hid (∀ j, j < k → byteAt s j ≠ 47 ∧ byteAt s j ≠ 92 ∧ byteAt s j ≠ 34 ∧ byteAt s j ≠ 39 ∧ byteAt s j ≠ 40)) (fun _ a _ => s.size - (intOf a).toNat)
  case atStart => exact ⟨rfl, 0, Nat.zero_le _, rfl, rfl, Lib.hid (fun j hj => by omega)⟩
  case round =>
    obtain ⟨rfl, k, hk, rfl, rfl, HK⟩ := hrel
    rcases (show k = s.size ∨ k < s.size by omega) with rfl | hlt
    · have HS : Hid (Safe s) := Lib.hid HK.out
      clear HK
      go_wp2_with fail
      refine (tkz_any s r _ HS.out h HT.out).mono ?_
      rintro e w2 ⟨ao, cap, ts, rfl, hO, hC, hb2⟩
      obtain ⟨ao', cap', hv, hcap, hblk, hcell⟩ := hO.at
      simp only [Value.slice.injEq] at hv
      obtain ⟨rfl, _, rfl⟩ := hv
      have hlen := hC.len (Nat.le_refl _)
      have H2 := Lib.hid (And.intro hC (And.intro hb2 (And.intro hblk hcell)))
      have hz2 := hb2.size
      obtain ⟨n, hn⟩ : ∃ n, cntNL s s.size = n := ⟨_, rfl⟩
      have hn2 := cntNL_le s s.size
      rw [hn] at hn2
      have HN := Lib.hid hn
      rw [hn]
      unfold c7
      clear hO hC hb2 hblk hcell hn
      have hnil : (ByteArray.empty : ByteArray) = { data := #[] } := rfl
      have hB := Blk.new w2 101 #[.slice ao ts.length cap, .slice none 0 0, .slice none 0 0, .string ByteArray.empty, .int .i32 0, .int .i32 0, .int .i32 ((n : Int) + 1)]
      have HB := Lib.hid hB
      clear hB
      go_upto_region 12 with fail
      go_cut [48] (fun v wc => v = .bool (bom3 s) ∧ wc = w2.alloc (.cells #[.slice ao ts.length cap, .slice none 0 0, .slice none 0 0, .string ByteArray.empty, .int .i32 0, .int .i32 0, .int .i32 ((n : Int) + 1)] 101))
      case first =>
        rcases (show s.size < 3 ∨ (3 ≤ s.size ∧ byteAt s 0 ≠ 239) ∨ (3 ≤ s.size ∧ byteAt s 0 = 239 ∧ byteAt s 1 ≠ 187) ∨ (3 ≤ s.size ∧ byteAt s 0 = 239 ∧ byteAt s 1 = 187 ∧ byteAt s 2 ≠ 191) ∨ (3 ≤ s.size ∧ byteAt s 0 = 239 ∧ byteAt s 1 = 187 ∧ byteAt s 2 = 191) by omega) with h3 | ⟨h3, q0⟩ | ⟨h3, q0, q1⟩ | ⟨h3, q0, q1, q2⟩ | ⟨h3, q0, q1, q2⟩
        · have HQ : Hid (bom3 s = false) := Lib.hid (by unfold bom3; rw [decide_eq_false (by omega)]; rfl)
          go_wp2_with fail
          go_meet
          exact ⟨by rw [HQ.out], rfl⟩
        · have HQ : Hid (bom3 s = false) := Lib.hid (by unfold bom3; rw [decide_eq_false q0]; simp)
          have e0 := byteAt_get s 0 (by omega)
          have t0 : ((byteAt s 0 : Int) == 239) = false := beq_eq_false_iff_ne.2 (by omega)
          generalize byteAt s 0 = b0 at *
          clear q0
          go_wp2_with fail
          go_meet
          exact ⟨by rw [HQ.out], rfl⟩
        · have HQ : Hid (bom3 s = false) := Lib.hid (by unfold bom3; rw [decide_eq_false q1]; simp)
          have e0 := byteAt_get s 0 (by omega)
          rw [q0] at e0
          have e1 := byteAt_get s 1 (by omega)
          have t0 : ((byteAt s 1 : Int) == 187) = false := beq_eq_false_iff_ne.2 (by omega)
          clear q0
          generalize byteAt s 1 = b1 at *
          clear q1
          go_wp2_with fail
          go_meet
          exact ⟨by rw [HQ.out], rfl⟩
        · have HQ : Hid (bom3 s = false) := Lib.hid (by unfold bom3; rw [decide_eq_false q2]; simp)
          have e0 := byteAt_get s 0 (by omega)
          rw [q0] at e0
          have e1 := byteAt_get s 1 (by omega)
          rw [q1] at e1
          have e2 := byteAt_get s 2 (by omega)
          have t0 : ((byteAt s 2 : Int) == 191) = false := beq_eq_false_iff_ne.2 (by omega)
          clear q0 q1
          generalize byteAt s 2 = b2 at *
          clear q2
          go_wp2_with fail
          go_meet
          exact ⟨by rw [HQ.out], rfl⟩
        · have HQ : Hid (bom3 s = true) := Lib.hid (by unfold bom3; simp [h3, q0, q1, q2])
          have e0 := byteAt_get s 0 (by omega)
          rw [q0] at e0
          have e1 := byteAt_get s 1 (by omega)
          rw [q1] at e1
          have e2 := byteAt_get s 2 (by omega)
          rw [q2] at e2
          clear q0 q1 q2
          go_wp2_with fail
          go_meet
          exact ⟨by rw [HQ.out], rfl⟩
      case rest =>
        obtain ⟨rfl, hcw⟩ := hcut
        have hcw1 := hcw.symm
        subst hcw1
        go_upto_if 48 with fail
        go_cut [7] (fun v wc => v = .int .i64 (bomQ s : Nat) ∧ wc = w2.alloc (.cells #[.slice ao ts.length cap, .slice none 0 0, .slice none 0 0, .string ByteArray.empty, .int .i32 0, .int .i32 0, .int .i32 ((n : Int) + 1)] 101))
        case first =>
          rcases hbb : bom3 s with _ | _
          · have HQ : Hid (bomQ s = 0) := Lib.hid (by unfold bomQ; rw [hbb]; rfl)
            go_wp2_with fail
            go_meet
            exact ⟨by rw [HQ.out]; rfl, rfl⟩
          · have HQ : Hid (bomQ s = 3) := Lib.hid (by unfold bomQ; rw [hbb]; rfl)
            go_wp2_with fail
            go_meet
            exact ⟨by rw [HQ.out]; rfl, rfl⟩
        case rest =>
          obtain ⟨rfl, hcw⟩ := hcut
          have hcw1 := hcw.symm
          subst hcw1
          obtain ⟨W, hW⟩ : ∃ W, W = w2.alloc (.cells #[.slice ao ts.length cap, .slice none 0 0, .slice none 0 0, .string ByteArray.empty, .int .i32 0, .int .i32 0, .int .i32 ((n : Int) + 1)] 101) := ⟨_, rfl⟩
          rw [← hW] at HB ⊢
          have HW : Hid (Below w2.heap.size w2 W ∧ w2.heap.size < W.heap.size) := Lib.hid (by rw [hW]; exact ⟨(Below.refl _ _).alloc (Nat.le_refl _) _, by simp⟩)
          have hWz := HW.out.2
          clear hW
          have c0 := HB.out.cell 0
          have c00 : W.cell? ⟨w2.heap.size, 0, none⟩ = some (.slice ao ts.length cap) := c0
          clear c0
          have hlen2 : ts.length ≤ 1048576 := by omega
          go_wp2_with fail
          go_loopw [7, 52] (fun a b wr => ∃ k : Nat, k ≤ ts.length ∧ b = .int .i64 k ∧ a = .int .i64 (bomQ s + lsum (ts.take k) : Nat) ∧ Below W.heap.size W wr) (fun _ b _ => ts.length - (intOf b).toNat)
          case atStart => exact ⟨0, Nat.zero_le _, rfl, by simp [lsum], Below.refl _ _⟩
          case round =>
            obtain ⟨k, hk, rfl, rfl, hbel⟩ := hrel
            have hz := hbel.size
            rcases (show k = ts.length ∨ k < ts.length by omega) with rfl | hlt
            · rw [List.take_length, ← H2.out.1.1]
              have k1 : wr.cell? ⟨w2.heap.size, 1, none⟩ = some (.slice none 0 0) := (hbel.cell (p := ⟨w2.heap.size, 1, none⟩) hWz).trans (HB.out.cell 1)
              have k2 : wr.cell? ⟨w2.heap.size, 2, none⟩ = some (.slice none 0 0) := (hbel.cell (p := ⟨w2.heap.size, 2, none⟩) hWz).trans (HB.out.cell 2)
              have k3 : wr.cell? ⟨w2.heap.size, 3, none⟩ = some (.string ByteArray.empty) := (hbel.cell (p := ⟨w2.heap.size, 3, none⟩) hWz).trans (HB.out.cell 3)
              have k6 : wr.cell? ⟨w2.heap.size, 6, none⟩ = some (.int .i32 ((n : Int) + 1)) := (hbel.cell (p := ⟨w2.heap.size, 6, none⟩) hWz).trans (HB.out.cell 6)
              have HF := Lib.hid ((H2.out.2.1.trans (HW.out.1.mono hz2)).trans (hbel.mono (by omega)))
              clear hbel c00
              go_wp2_with fail
              have hn1 : (n : Int) + 1 ≤ 1048577 := by omega
              go_quiet ((go_at_call 38; exact Calls.quiet_of_same (cnl_any s _ h)))
              rw [HN.out]
              have hwn : wrap64 ((n : Int) + 1) = (n : Int) + 1 := by unfold wrap64; omega
              clear hn1 k6 hn2 hz hz2 hlen hlen2 hWz h
              go_wp2
              go_ret
              exact ⟨rfl, bdr HF.out _⟩
            · obtain ⟨hst, hk0, hP⟩ := H2.out.1.2 k hlt
              obtain ⟨g, hao, hg⟩ := H2.out.2.2.1 k hlt
              have hcs := H2.out.2.2.2 g hao k hlt
              have hls := lsum_take ts k hlt
              generalize ts[k] = t at *
              obtain ⟨st, ln, un, kd, fl⟩ := t
              simp only at hst hk0 hP hls
              rcases hP with ⟨h0, _⟩ | ⟨hp1, hp2, hok, _⟩
              · exact absurd h0 hk0
              have hkd := kd_ok hok
              have hbel2 : Below w2.heap.size w2 wr := HW.out.1.trans (hbel.mono (by omega))
              have c0 : wr.cell? ⟨g, k * 5, none⟩ = some (.int .i32 st) := (hbel2.cell (p := ⟨g, k * 5, none⟩) hg).trans (hcs 0 (by omega))
              have c1 : wr.cell? ⟨g, k * 5 + 1, none⟩ = some (.int .i32 ln) := (hbel2.cell (p := ⟨g, k * 5 + 1, none⟩) hg).trans (hcs 1 (by omega))
              have c2 : wr.cell? ⟨g, k * 5 + 2, none⟩ = some (.int .u16 un) := (hbel2.cell (p := ⟨g, k * 5 + 2, none⟩) hg).trans (hcs 2 (by omega))
              have c3 : wr.cell? ⟨g, k * 5 + 3, none⟩ = some (.int .u8 kd) := (hbel2.cell (p := ⟨g, k * 5 + 3, none⟩) hg).trans (hcs 3 (by omega))
              have c4 : wr.cell? ⟨g, k * 5 + 4, none⟩ = some (.int .u8 fl) := (hbel2.cell (p := ⟨g, k * 5 + 4, none⟩) hg).trans (hcs 4 (by omega))
              have t0 : ((kd : Int) == 0) = false := beq_eq_false_iff_ne.2 (by omega)
              have t2 : ((kd : Int) == 2) = false := beq_eq_false_iff_ne.2 (by omega)
              have t3 : ((kd : Int) == 3) = false := beq_eq_false_iff_ne.2 (by omega)
              have t4 : ((kd : Int) == 24) = false := beq_eq_false_iff_ne.2 (by omega)
              have t5 : ((kd : Int) == 27) = false := beq_eq_false_iff_ne.2 (by omega)
              have t6 : ((kd : Int) == 33) = false := beq_eq_false_iff_ne.2 (by omega)
              have t7 : ((kd : Int) == 36) = false := beq_eq_false_iff_ne.2 (by omega)
              have t8 : ((kd : Int) == 37) = false := beq_eq_false_iff_ne.2 (by omega)
              have t9 : decide ((39 : Int) ≤ (kd : Int)) = false := decide_eq_false (by omega)
              have t10 : decide (39 ≤ kd) = false := decide_eq_false (by omega)
              have t11 : decide ((ln : Int) ≤ 0) = false := decide_eq_false (by omega)
              have hp3 : st + ln ≤ 1048576 := by omega
              have hln0 : ¬ ln = 0 := by omega
              rw [← hst]
              have HS' : Hid (st + ln = bomQ s + lsum (ts.take (k + 1))) := Lib.hid (by rw [hls]; omega)
              have HF := Lib.hid hbel
              clear hcs hls hst hp1 hp2 hok hbel2 hbel hkd hk0
              subst hao
              go_wp2_with fail
              go_roundw
              case rel => exact ⟨k + 1, by omega, by go_num, by rw [← HS'.out]; go_num, HF.out.alloc hz _⟩
              case measure => simp [intOf]; omega
    · have eb := byteAt_get s k hlt
      obtain ⟨b, hb⟩ : ∃ b, byteAt s k = b := ⟨_, rfl⟩
      rw [hb] at eb
      by_cases hsb : b ≠ 47 ∧ b ≠ 92 ∧ b ≠ 34 ∧ b ≠ 39 ∧ b ≠ 40
      · have HK2 : Hid (∀ j, j < k + 1 → byteAt s j ≠ 47 ∧ byteAt s j ≠ 92 ∧ byteAt s j ≠ 34 ∧ byteAt s j ≠ 39 ∧ byteAt s j ≠ 40) := Lib.hid (fun j hj => by
          rcases (show j = k ∨ j < k by omega) with rfl | hl
          · rw [hb]; exact hsb
          · exact HK.out j hl)
        have HB := Lib.hid hsb
        clear hsb HK hb
        go_wp2_with (go_at_call 36; refine (sb_yes _ _ HB.out).mono ?_; rintro e w2 ⟨rfl, rfl⟩)
        go_roundw
        case rel => exact ⟨by first | rfl | trivial, k + 1, by omega, by go_num, by first | rfl | trivial, HK2⟩
        case measure => simp [intOf]; omega
      · have HB := Lib.hid hsb
        clear hsb HK hb
        go_wp2_with (go_at_call 36; refine (sb_not _ _ HB.out).mono ?_; rintro e w2 ⟨rfl, rfl⟩)
        go_ret
        exact ⟨rfl, Below.refl _ _⟩

theorem walk (a0 : ByteArray) (a1 : Bool) (w0 : a0.size ≤ maxLen) (w : World) (hL : laidMetH Tryd.prog Rows.fnTokenizeTilesInputWithoutCommentsRow.laid w) :
    Calls Tryd.prog 7 #[.string a0, .bool a1] w fun e w' => e = .returned (.bool true) ∧ Below w.heap.size w w' := by
  have ht : Lib.Utf8Tabs 0 1 w := utf8Tabs_of_readsT u8types u8extra (Pinned.utf8First_eq ▸ Lib.laidMet.reads hL (.tail _ (.head _))) (Lib.laidMet.reads hL (.head _))
  by_cases hl : a0.size ≤ 1048576
  · exact good a0 a1 w hl ht
  · exact bad1 a0 a1 w (by omega) w0

open Go.Lib
set_option maxRecDepth 100000 in
theorem contract (H : Type) (enc : TypeId × Value → H) (W : World) (base : Nat) (args : Array Value) (ds gs : List (DataW H)) (before : List MemPlace)
    (hval : ∀ (j : Nat) t v, Tryd.f7.params[j]? = some t → args[j]? = some v → Value.okWide Tryd.prog W .any base t v)
    (hW : DataW.Whole enc Tryd.prog Tryd.f7.params.toList Rows.fnTokenizeTilesInputWithoutCommentsSpec.vars false W args.toList ds gs before) (hL : laidMetH Tryd.prog Rows.fnTokenizeTilesInputWithoutCommentsRow.laid W) :
    Calls Tryd.prog 7 args W fun e W' => ∃ v, e = .returned v ∧ Rows.fnTokenizeTilesInputWithoutCommentsSpec.post enc Tryd.prog Tryd.f7 false true false false W args v W' := by
  have hW' := hW
  obtain ⟨p, q, hA0, hV, rfl, hfz, hnd⟩ := hW
  have hA : DataW.TrodAll enc Tryd.prog W 0 (fun _ => true) true Tryd.f7.params.toList args.toList ds p := hA0
  rw [Tryd.params7] at hA hval
  obtain ⟨v0, vs0, d0, ds0, p0, q0, hargs, rfl, rfl, h0, r0⟩ := trodAll_cons hA
  obtain ⟨v1, vs1, d1, ds1, p1, q1, rfl, rfl, rfl, h1, r1⟩ := trodAll_cons r0
  obtain ⟨rfl, rfl, rfl⟩ := trodAll_nil r1
  obtain rfl : args = #[v0, v1] := by cases args; simp_all
  obtain ⟨rfl, rfl⟩ := trodVars_none hV
  obtain ⟨a0, rfl, rfl, rfl, w0⟩ := open_string Tryd.underlying9 (hval 0 9 v0 rfl rfl) h0
  obtain ⟨a1, rfl, rfl, rfl⟩ := open_bool Tryd.underlying4 (hval 1 4 v1 rfl rfl) h1
  clear hA0
  simp only [List.append_nil] at hW'
  refine (walk a0 a1 w0 W hL).mono fun e W' ⟨he, bel⟩ => ?_
  subst he
  exact ⟨_, rfl, _, _, _, [], _, [], hW', trodAll_mk1 (shut_bool Tryd.underlying4 _), (trodAll_cons_mk (shut_string Tryd.underlying9 w0) (trodAll_cons_mk (shut_bool Tryd.underlying4 _) trodAll_mk0)), rfl, bel.frame _, fun h => by cases h⟩


/-- a world for the witness: the settled one, the listed variables holding what their initialisers lay -/
noncomputable def laidWorld (os : Os) : World :=
  let w0 := World.holding Tryd.prog os ⟨#[], #[], []⟩
  let put (h : Array Obj) (g : Nat) (cs : Array Value) : Array Obj := h.modify g fun
    | .cells _ t frozen => .cells cs t frozen
    | o => o
  let h1 := put w0.heap 1 ((List.range 16).flatMap fun i => [Value.int .u8 (Lib.accLo i), Value.int .u8 (Lib.accHi i)]).toArray
  let h2 := put h1 0 (Lib.firstTab.map fun z => Value.int .u8 z).toArray
  { w0 with heap := h2 }


set_option maxRecDepth 1000000 in
theorem piece0 (os : Os) (args : Array Value) : LaidIn Tryd.prog ((laidWorld os).forCall (fun _ _ => 0) ⟨#[], args, []⟩).memory [("unicode/utf8.acceptRanges", Rows.laid_unicode_utf8_acceptRanges), ("unicode/utf8.first", Rows.laid_unicode_utf8_first)] [1, 0] :=
  LaidIn.of_run [1, 0] 8 (by kernel_rfl) (by kernel_rfl) (by kernel_rfl) (by kernel_rfl)
set_option maxRecDepth 1000000 in
theorem laid_met (os : Os) (args : Array Value) : laidMet Tryd.prog Rows.fnTokenizeTilesInputWithoutCommentsRow.laid ((laidWorld os).forCall (fun _ _ => 0) ⟨#[], args, []⟩).memory :=
  (piece0 os args).met
theorem witness_row (os : Os) {H : Type} (enc : TypeId × Value → H) :
    (OpenSpec.ofChange Rows.fnTokenizeTilesInputWithoutCommentsSpec).preRow enc Tryd.prog Tryd.f7 Rows.fnTokenizeTilesInputWithoutCommentsRow.domain false Rows.fnTokenizeTilesInputWithoutCommentsRow.laid ((laidWorld os).forCall (fun _ _ => 0) ⟨#[], #[.string ByteArray.empty, .bool false], []⟩).memory #[.string ByteArray.empty, .bool false] := by
  have hw : (DataW.whole enc Tryd.prog ((laidWorld os).forCall (fun _ _ => 0) ⟨#[], #[.string ByteArray.empty, .bool false], []⟩).memory Tryd.f7.params.toList Rows.fnTokenizeTilesInputWithoutCommentsSpec.vars false (#[.string ByteArray.empty, .bool false] : Array Value).toList 8).map (fun x => (x.1, x.2.1)) =
      some ([.lit (.string []), .lit (.bool false)], []) := by kernel_rfl
  obtain ⟨⟨x1, x2, x3⟩, hx, hx1⟩ := Option.map_eq_some_iff.1 hw
  simp only [Prod.mk.injEq] at hx1
  obtain ⟨rfl, rfl⟩ := hx1
  exact OpenSpec.preRow_of_cond 8 hx (by kernel_rfl) (fun k hk => by cases hk) (by kernel_rfl) (laid_met os _)

set_option maxRecDepth 100000 in
theorem lifted (os : Os) (started : os.Started) (H : Type) (enc : TypeId × Value → H) (F : Stop.Interp) :
    ReturnsInHanded {} Tryd.checked os 7 .any ((OpenSpec.ofChange Rows.fnTokenizeTilesInputWithoutCommentsSpec).preRow enc Tryd.prog Tryd.f7 Rows.fnTokenizeTilesInputWithoutCommentsRow.domain false Rows.fnTokenizeTilesInputWithoutCommentsRow.laid) (((OpenSpec.ofChange Rows.fnTokenizeTilesInputWithoutCommentsSpec).at F).post enc Tryd.prog Tryd.f7 false true false false) := by
  refine returnsInHanded_of_row (C := Tryd.checked) (s := OpenSpec.ofChange Rows.fnTokenizeTilesInputWithoutCommentsSpec) own started (by kernel_rfl) Tryd.func7
    (witness_row_atRef (enc := enc) (C := Tryd.checked) false (laidWorld os) #[.string ByteArray.empty, .bool false] rfl (by kernel_rfl) (by kernel_rfl) (by kernel_rfl) (witness_row os enc)) ?_
  intro W base args ds gs before hval hW _ _ _ hL _ _
  exact contract H enc W base args ds gs before hval hW hL

theorem said : Rows.FnTokenizeTilesInputWithoutCommentsSaid :=
  OpenClaim.holds_of_cond 7 Tryd.f7 rfl rfl rfl rfl rfl rfl rfl ⟨rfl, rfl, rfl, rfl, rfl⟩ rfl rfl rfl rfl rfl (by kernel_rfl) Tryd.func7 (by kernel_rfl)
    (of_decide_eq_true (by kernel_rfl)) (by unfold Func.isWrapper; first | (rw [if_pos (by decide +kernel)]; kernel_rfl) | (rw [if_neg (by decide +kernel)]; exact ⟨rfl, rfl⟩))
    (fun os started H enc _ F => by rw [OpenClaim.pre_eq_preRow]; exact lifted os started H enc F)

/-- No parameter wants a stand-in; the program's own looks are off: what the card asks. -/
theorem plain7 (f : FuncId) (fn : Func) (hf : Tryd.pinned.checked.prog.funcNamed Rows.fnTokenizeTilesInputWithoutCommentsRow.func = some f) (hfn : Tryd.pinned.checked.prog.funcs[f]? = some fn) :
    false = Tryd.pinned.checked.prog.looks [] ∧ ∀ (j : Nat) t, fn.params[j]? = some t → Tryd.pinned.checked.prog.wantsStandIn t = false := by
  obtain rfl : f = 7 := Option.some.inj ((show Tryd.prog.funcNamed Rows.fnTokenizeTilesInputWithoutCommentsRow.func = some 7 by kernel_rfl).symm.trans hf) |>.symm
  obtain rfl : fn = Tryd.f7 := (Option.some.inj (Tryd.func7.symm.trans hfn)).symm
  refine ⟨by kernel_rfl, fun j t ht => ?_⟩
  rw [Tryd.params7] at ht
  have hm := Array.mem_of_getElem? ht
  have : t = 9 ∨ t = 4 := by simpa using hm
  rcases this with rfl | rfl
  · exact (show Tryd.prog.wantsStandIn 9 = false by kernel_rfl)
  · exact (show Tryd.prog.wantsStandIn 4 = false by kernel_rfl)

/-- the statement: the tied card -/
theorem proved : Rows.FnTokenizeTilesInputWithoutCommentsCardSaid :=
  Claim7.holds_tied_plain_at .later [] _ _ _ _ said (fun _ h => by cases h) (by kernel_rfl) (fun _ h => by cases h) fnTokenizeTilesInputWithoutComments_row_tie rfl ⟨rfl, rfl⟩ (by kernel_rfl) rfl plain7 (by kernel_rfl)
#print axioms proved
end Go.Proofs.YtlbpplkanogkgaaDoor.fnTokenizeTilesInputWithoutComments
