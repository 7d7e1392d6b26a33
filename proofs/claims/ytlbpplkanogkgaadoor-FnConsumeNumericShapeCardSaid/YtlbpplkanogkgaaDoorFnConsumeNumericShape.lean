/-
  For every text and offset the law FnConsumeNumericShape returns true: at a number's start the numeric token is non-empty and inside the text, a number ends in a digit or a dot and no percent sign follows, a percentage ends in a percent sign, and a dimension's unit offset lies strictly inside the token (outside its premise the law returns true too). The card ties the decoder's tables to the program's text.
-/
import Derived.Test.YtlbpplkanogkgaaDoorCards
import Derived.Test.YtlbpplkanogkgaaDoorTie
import Derived.WalkKit
import Derived.ProofKit
import Derived.OpenShut
import Derived.ShutString
import Derived.ChangeOld
import Derived.Below
import Derived.Deep.DeepHandedRow
import Derived.Deep.DeepWitnessRowRef
import Derived.Lib.LaidIn
import Derived.Lib.LaidSlice
import Derived.Lib.LaidU8
import Derived.PinnedBridge
import Derived.OpenVars
import Derived.Lib.LaidU8T
import Derived.PinnedBridge
import Derived.Test.YtlbpplkanogkgaaDoorCssNum
import Derived.Test.YtlbpplkanogkgaaDoorCssMk
namespace Go.Proofs.YtlbpplkanogkgaaDoor.fnConsumeNumericShape
open Go.ChangeShapes Go.WideShapes Go.ChangeAt Go.RowKit
open Go.ChangeMaps (open_string shut_string)
set_option linter.unusedVariables false

theorem own : ownKnob Tryd.prog.godebug = none := by kernel_rfl
theorem laidOut : laidOutB Tryd.prog = true := by kernel_rfl

def u8ren : Go.Shelf.Ren := ⟨fun n => n, fun | 119 => 165 | 138 => 167 | 139 => 168 | n => n, fun | 3 => 0 | 4 => 1 | n => n⟩
theorem u8types : U8Types Tryd.prog u8ren := ⟨Tryd.underlying5, Tryd.underlying165, Tryd.underlying167, Tryd.underlying168⟩
theorem u8extra : U8Extra Tryd.prog u8ren := ⟨by kernel_rfl, by kernel_rfl, by kernel_rfl, by kernel_rfl, by kernel_rfl, by kernel_rfl, by kernel_rfl⟩
theorem bytes_no (s : ByteArray) (n : Int) (w : World) (h : 1048576 < s.size) (hm : s.size ≤ maxLen) : Calls Tryd.prog 31 #[.string s, .int .i64 n] w fun r w' => r = .returned (.bool false) ∧ w = w' := by
  unfold maxLen at hm
  go_enter Tryd.func31, Tryd.ntmps31
  go_wp2
  go_ret
  exact ⟨rfl, rfl⟩
theorem bytes_yes (s : ByteArray) (n : Int) (w : World) (h : s.size ≤ 1048576) : Calls Tryd.prog 31 #[.string s, .int .i64 n] w fun r w' => r = .returned (.bool true) ∧ w = w' := by
  go_enter Tryd.func31, Tryd.ntmps31
  go_wp2
  go_ret
  exact ⟨rfl, rfl⟩
set_option maxRecDepth 100000 in
theorem bad1 (s : ByteArray) (n : Int) (w : World) (h : 1048576 < s.size) (hm : s.size ≤ maxLen) : Calls Tryd.prog 6 #[.string s, .int .i64 n] w fun e w' => e = .returned (.bool true) ∧ Below w.heap.size w w' := by
  go_enter Tryd.func6, Tryd.ntmps6
  go_wp2_with (go_at_call 31; refine (bytes_no _ _ _ h hm).mono ?_; rintro e w1 ⟨rfl, rfl⟩)
  go_ret
  exact ⟨rfl, Below.refl _ _⟩
set_option maxRecDepth 100000 in
theorem bad2 (s : ByteArray) (n : Int) (w : World) (h : s.size ≤ 1048576) (h2 : decide ((65536 : Int) ≤ (s.size : Int)) = true) : Calls Tryd.prog 6 #[.string s, .int .i64 n] w fun e w' => e = .returned (.bool true) ∧ Below w.heap.size w w' := by
  go_enter Tryd.func6, Tryd.ntmps6
  go_wp2_with (go_at_call 31; refine (bytes_yes _ _ _ h).mono ?_; rintro e w1 ⟨rfl, rfl⟩)
  go_ret
  exact ⟨rfl, Below.refl _ _⟩
set_option maxRecDepth 100000 in
theorem bad3 (s : ByteArray) (n : Int) (w : World) (h : s.size ≤ 65535) (h2 : n < 0 ∨ (s.size : Int) ≤ n) : Calls Tryd.prog 6 #[.string s, .int .i64 n] w fun e w' => e = .returned (.bool true) ∧ Below w.heap.size w w' := by
  have d : decide ((65536 : Int) ≤ (s.size : Int)) = false := decide_eq_false (by omega)
  have hs' : s.size ≤ 1048576 := by omega
  clear h
  rcases (show n < 0 ∨ (0 ≤ n ∧ (s.size : Int) ≤ n) by omega) with h2 | ⟨h0, h2⟩
  all_goals
    go_enter Tryd.func6, Tryd.ntmps6
    go_wp2_with (go_at_call 31; refine (bytes_yes _ _ _ (by omega)).mono ?_; rintro e w1 ⟨rfl, rfl⟩)
    go_ret
    exact ⟨rfl, Below.refl _ _⟩
theorem dig_yes (c : Nat) (w : World) (h1 : 48 ≤ c) (h2 : c ≤ 57) : Calls Tryd.prog 34 #[.int .u8 c] w fun e w' => e = .returned (.bool true) ∧ w = w' := by
  go_enter Tryd.func34, Tryd.ntmps34
  go_wp2
  go_ret
  exact ⟨ret_bool (by first | rfl | (simp; omega)), rfl⟩
theorem dig_not (c : Nat) (w : World) (h : ¬ (48 ≤ c ∧ c ≤ 57)) : Calls Tryd.prog 34 #[.int .u8 c] w fun e w' => e = .returned (.bool false) ∧ w = w' := by
  rcases (show c < 48 ∨ (48 ≤ c ∧ 57 < c) by omega) with h1 | ⟨h1, h2⟩
  all_goals
    clear h
    go_enter Tryd.func34, Tryd.ntmps34
    go_wp2
    go_ret
    exact ⟨ret_bool (by first | rfl | (simp; omega)), rfl⟩
def WS (s : ByteArray) (i : Nat) (w : World) (r : Ending) (w' : World) : Prop := ∃ v : Bool, r = .returned (.bool v) ∧ (v = true → wsn s i) ∧ w = w'
set_option maxHeartbeats 2000000 in
theorem wsn_any (s : ByteArray) (i : Nat) (w : World) (h : i < s.size) (hs : s.size < 65536) : Calls Tryd.prog 32 #[.string s, .int .i64 i] w (WS s i w) := by
  have eb := byteAt_get s i h
  have hbl := byteAt_lt s i
  obtain ⟨b0, hb0⟩ : ∃ b, byteAt s i = b := ⟨_, rfl⟩
  rw [hb0] at eb hbl
  have HB0 := Lib.hid hb0
  clear hb0
  by_cases d0 : 48 ≤ b0 ∧ b0 ≤ 57
  · obtain ⟨x1, x2⟩ := d0
    go_enter Tryd.func32, Tryd.ntmps32
    go_wp2_with (go_at_call 34; refine (dig_yes _ _ x1 x2).mono ?_; rintro e w1 ⟨rfl, rfl⟩)
    go_ret
    exact ⟨true, rfl, fun _ => ⟨h, .inl (by rw [HB0.out]; exact ⟨x1, x2⟩)⟩, rfl⟩
  · have HN0 := Lib.hid (fun w => dig_not b0 w d0)
    rcases (show b0 = 46 ∨ b0 = 43 ∨ b0 = 45 ∨ (b0 ≠ 46 ∧ b0 ≠ 43 ∧ b0 ≠ 45) by omega) with hd | hd | hd | ⟨e1, e2, e3⟩
    · subst hd
      by_cases l1 : i + 1 < s.size
      · have eb1 := byteAt_get s (i + 1) l1
        have hbl1 := byteAt_lt s (i + 1)
        obtain ⟨b1, hb1⟩ : ∃ b, byteAt s (i + 1) = b := ⟨_, rfl⟩
        rw [hb1] at eb1 hbl1
        have HB1 := Lib.hid hb1
        clear hb1 d0
        by_cases d1 : 48 ≤ b1 ∧ b1 ≤ 57
        · have HN1 := Lib.hid (fun w => dig_yes b1 w d1.1 d1.2)
          have HD1 := Lib.hid d1
          clear d1
          go_enter Tryd.func32, Tryd.ntmps32
          go_wp2_with fail
          refine (HN0.out _).mono ?_
          rintro e w1 ⟨rfl, rfl⟩
          go_wp2_with fail
          refine (HN1.out _).mono ?_
          rintro e w1 ⟨rfl, rfl⟩
          go_wp2_with fail
          go_ret
          exact ⟨true, rfl, fun _ => ⟨h, .inr (.inl ⟨HB0.out, l1, by rw [HB1.out]; exact HD1.out⟩)⟩, rfl⟩
        · have HN1 := Lib.hid (fun w => dig_not b1 w d1)
          clear d1
          go_enter Tryd.func32, Tryd.ntmps32
          go_wp2_with fail
          refine (HN0.out _).mono ?_
          rintro e w1 ⟨rfl, rfl⟩
          go_wp2_with fail
          refine (HN1.out _).mono ?_
          rintro e w1 ⟨rfl, rfl⟩
          go_wp2_with fail
          go_ret
          exact ⟨false, rfl, fun c => (by cases c), rfl⟩
      · clear d0
        go_enter Tryd.func32, Tryd.ntmps32
        go_wp2_with fail
        refine (HN0.out _).mono ?_
        rintro e w1 ⟨rfl, rfl⟩
        go_wp2_with fail
        go_ret
        exact ⟨false, by first | rfl | exact ret_bool (by simp; omega), fun c => (by cases c), rfl⟩
    · subst hd
      by_cases l1 : i + 1 < s.size
      · have eb1 := byteAt_get s (i + 1) l1
        have hbl1 := byteAt_lt s (i + 1)
        obtain ⟨b1, hb1⟩ : ∃ b, byteAt s (i + 1) = b := ⟨_, rfl⟩
        rw [hb1] at eb1 hbl1
        have HB1 := Lib.hid hb1
        clear hb1 d0
        by_cases d1 : 48 ≤ b1 ∧ b1 ≤ 57
        · have HN1 := Lib.hid (fun w => dig_yes b1 w d1.1 d1.2)
          have HD1 := Lib.hid d1
          clear d1
          go_enter Tryd.func32, Tryd.ntmps32
          go_wp2_with fail
          refine (HN0.out _).mono ?_
          rintro e w1 ⟨rfl, rfl⟩
          go_wp2_with fail
          refine (HN1.out _).mono ?_
          rintro e w1 ⟨rfl, rfl⟩
          go_wp2_with fail
          go_ret
          exact ⟨true, rfl, fun _ => ⟨h, .inr (.inr ⟨by rw [HB0.out]; omega, l1, .inl (by rw [HB1.out]; exact HD1.out)⟩)⟩, rfl⟩
        · have HN1 := Lib.hid (fun w => dig_not b1 w d1)
          by_cases e1 : b1 = 46
          · subst e1
            by_cases l2 : i + 2 < s.size
            · have eb2 := byteAt_get s (i + 2) l2
              have hbl2 := byteAt_lt s (i + 2)
              obtain ⟨b2, hb2⟩ : ∃ b, byteAt s (i + 2) = b := ⟨_, rfl⟩
              rw [hb2] at eb2 hbl2
              have HB2 := Lib.hid hb2
              clear hb2 d1
              by_cases d2 : 48 ≤ b2 ∧ b2 ≤ 57
              · have HN2 := Lib.hid (fun w => dig_yes b2 w d2.1 d2.2)
                have HD2 := Lib.hid d2
                clear d2
                go_enter Tryd.func32, Tryd.ntmps32
                go_wp2_with fail
                refine (HN0.out _).mono ?_
                rintro e w1 ⟨rfl, rfl⟩
                go_wp2_with fail
                refine (HN1.out _).mono ?_
                rintro e w1 ⟨rfl, rfl⟩
                go_wp2_with fail
                refine (HN2.out _).mono ?_
                rintro e w1 ⟨rfl, rfl⟩
                go_wp2_with fail
                go_ret
                exact ⟨true, rfl, fun _ => ⟨h, .inr (.inr ⟨by rw [HB0.out]; omega, l1, .inr ⟨HB1.out, l2, by rw [HB2.out]; exact HD2.out⟩⟩)⟩, rfl⟩
              · have HN2 := Lib.hid (fun w => dig_not b2 w d2)
                clear d2
                go_enter Tryd.func32, Tryd.ntmps32
                go_wp2_with fail
                refine (HN0.out _).mono ?_
                rintro e w1 ⟨rfl, rfl⟩
                go_wp2_with fail
                refine (HN1.out _).mono ?_
                rintro e w1 ⟨rfl, rfl⟩
                go_wp2_with fail
                refine (HN2.out _).mono ?_
                rintro e w1 ⟨rfl, rfl⟩
                go_wp2_with fail
                go_ret
                exact ⟨false, rfl, fun c => (by cases c), rfl⟩
            · clear d1
              go_enter Tryd.func32, Tryd.ntmps32
              go_wp2_with fail
              refine (HN0.out _).mono ?_
              rintro e w1 ⟨rfl, rfl⟩
              go_wp2_with fail
              refine (HN1.out _).mono ?_
              rintro e w1 ⟨rfl, rfl⟩
              go_wp2_with fail
              go_ret
              exact ⟨false, rfl, fun c => (by cases c), rfl⟩
          · have t1 : ((b1 : Int) == 46) = false := beq_eq_false_iff_ne.2 (by omega)
            clear d1
            go_enter Tryd.func32, Tryd.ntmps32
            go_wp2_with fail
            refine (HN0.out _).mono ?_
            rintro e w1 ⟨rfl, rfl⟩
            go_wp2_with fail
            refine (HN1.out _).mono ?_
            rintro e w1 ⟨rfl, rfl⟩
            go_wp2_with fail
            go_ret
            exact ⟨false, rfl, fun c => (by cases c), rfl⟩
      · clear d0
        go_enter Tryd.func32, Tryd.ntmps32
        go_wp2_with fail
        refine (HN0.out _).mono ?_
        rintro e w1 ⟨rfl, rfl⟩
        go_wp2_with fail
        go_ret
        exact ⟨false, rfl, fun c => (by cases c), rfl⟩
    · subst hd
      by_cases l1 : i + 1 < s.size
      · have eb1 := byteAt_get s (i + 1) l1
        have hbl1 := byteAt_lt s (i + 1)
        obtain ⟨b1, hb1⟩ : ∃ b, byteAt s (i + 1) = b := ⟨_, rfl⟩
        rw [hb1] at eb1 hbl1
        have HB1 := Lib.hid hb1
        clear hb1 d0
        by_cases d1 : 48 ≤ b1 ∧ b1 ≤ 57
        · have HN1 := Lib.hid (fun w => dig_yes b1 w d1.1 d1.2)
          have HD1 := Lib.hid d1
          clear d1
          go_enter Tryd.func32, Tryd.ntmps32
          go_wp2_with fail
          refine (HN0.out _).mono ?_
          rintro e w1 ⟨rfl, rfl⟩
          go_wp2_with fail
          refine (HN1.out _).mono ?_
          rintro e w1 ⟨rfl, rfl⟩
          go_wp2_with fail
          go_ret
          exact ⟨true, rfl, fun _ => ⟨h, .inr (.inr ⟨by rw [HB0.out]; omega, l1, .inl (by rw [HB1.out]; exact HD1.out)⟩)⟩, rfl⟩
        · have HN1 := Lib.hid (fun w => dig_not b1 w d1)
          by_cases e1 : b1 = 46
          · subst e1
            by_cases l2 : i + 2 < s.size
            · have eb2 := byteAt_get s (i + 2) l2
              have hbl2 := byteAt_lt s (i + 2)
              obtain ⟨b2, hb2⟩ : ∃ b, byteAt s (i + 2) = b := ⟨_, rfl⟩
              rw [hb2] at eb2 hbl2
              have HB2 := Lib.hid hb2
              clear hb2 d1
              by_cases d2 : 48 ≤ b2 ∧ b2 ≤ 57
              · have HN2 := Lib.hid (fun w => dig_yes b2 w d2.1 d2.2)
                have HD2 := Lib.hid d2
                clear d2
                go_enter Tryd.func32, Tryd.ntmps32
                go_wp2_with fail
                refine (HN0.out _).mono ?_
                rintro e w1 ⟨rfl, rfl⟩
                go_wp2_with fail
                refine (HN1.out _).mono ?_
                rintro e w1 ⟨rfl, rfl⟩
                go_wp2_with fail
                refine (HN2.out _).mono ?_
                rintro e w1 ⟨rfl, rfl⟩
                go_wp2_with fail
                go_ret
                exact ⟨true, rfl, fun _ => ⟨h, .inr (.inr ⟨by rw [HB0.out]; omega, l1, .inr ⟨HB1.out, l2, by rw [HB2.out]; exact HD2.out⟩⟩)⟩, rfl⟩
              · have HN2 := Lib.hid (fun w => dig_not b2 w d2)
                clear d2
                go_enter Tryd.func32, Tryd.ntmps32
                go_wp2_with fail
                refine (HN0.out _).mono ?_
                rintro e w1 ⟨rfl, rfl⟩
                go_wp2_with fail
                refine (HN1.out _).mono ?_
                rintro e w1 ⟨rfl, rfl⟩
                go_wp2_with fail
                refine (HN2.out _).mono ?_
                rintro e w1 ⟨rfl, rfl⟩
                go_wp2_with fail
                go_ret
                exact ⟨false, rfl, fun c => (by cases c), rfl⟩
            · clear d1
              go_enter Tryd.func32, Tryd.ntmps32
              go_wp2_with fail
              refine (HN0.out _).mono ?_
              rintro e w1 ⟨rfl, rfl⟩
              go_wp2_with fail
              refine (HN1.out _).mono ?_
              rintro e w1 ⟨rfl, rfl⟩
              go_wp2_with fail
              go_ret
              exact ⟨false, rfl, fun c => (by cases c), rfl⟩
          · have t1 : ((b1 : Int) == 46) = false := beq_eq_false_iff_ne.2 (by omega)
            clear d1
            go_enter Tryd.func32, Tryd.ntmps32
            go_wp2_with fail
            refine (HN0.out _).mono ?_
            rintro e w1 ⟨rfl, rfl⟩
            go_wp2_with fail
            refine (HN1.out _).mono ?_
            rintro e w1 ⟨rfl, rfl⟩
            go_wp2_with fail
            go_ret
            exact ⟨false, rfl, fun c => (by cases c), rfl⟩
      · clear d0
        go_enter Tryd.func32, Tryd.ntmps32
        go_wp2_with fail
        refine (HN0.out _).mono ?_
        rintro e w1 ⟨rfl, rfl⟩
        go_wp2_with fail
        go_ret
        exact ⟨false, rfl, fun c => (by cases c), rfl⟩
    · have t1 : ((b0 : Int) == 46) = false := beq_eq_false_iff_ne.2 (by omega)
      have t2 : ((b0 : Int) == 43) = false := beq_eq_false_iff_ne.2 (by omega)
      have t3 : ((b0 : Int) == 45) = false := beq_eq_false_iff_ne.2 (by omega)
      clear d0
      go_enter Tryd.func32, Tryd.ntmps32
      go_wp2_with fail
      refine (HN0.out _).mono ?_
      rintro e w1 ⟨rfl, rfl⟩
      go_wp2_with fail
      go_ret
      exact ⟨false, rfl, fun c => (by cases c), rfl⟩
def Z33 (s : ByteArray) (st : Nat) (w : World) (r : Ending) (w' : World) : Prop := ∃ q' kd un : Nat, r = .returned (.tuple #[.int .u8 kd, .int .u16 un, .int .i32 q']) ∧ NumTo s st st q' kd un 0 ∧ Below w.heap.size w w'
set_option maxRecDepth 100000 in
set_option maxHeartbeats 2000000 in
theorem z33 (s : ByteArray) (st : Nat) (w : World) (h : wsn s st) (hs : s.size < 65536) (ht : Lib.Utf8Tabs 0 1 w) : Calls Tryd.prog 33 #[.string s, .int .i64 st] w (Z33 s st w) := by
  have hst := h.1
  have H := Lib.hid (And.intro h ht)
  clear h ht
  go_enter Tryd.func33, Tryd.ntmps33
  go_wp2_with fail
  refine (mk_any s st w (by omega) (by omega) H.out.2).mono ?_
  rintro e w1 ⟨p, rfl, l1, hp, b1⟩
  have H1 := Lib.hid (And.intro l1 b1)
  clear l1 b1
  go_wp2_with fail
  refine (num_any p (laidAt s st) _ st w1 H1.out.1 H.out.1).mono ?_
  rintro e w2 ⟨q', kd, un, rfl, hn, l2, g2⟩
  have hn : NumTo s st st q' kd un 0 := hn
  have hq : q' ≤ s.size := l2.hq
  have hq2 : st ≤ q' := l2.hst
  have hp2 := l2.lt
  obtain ⟨e0, e10, e17, e18, e19, e20, e21, e32, e33, e35, e36, e37, e38, e39, e40⟩ := l2.css.cells
  have c36 : w2.cell? ⟨p, 36, none⟩ = some (.int .i32 st) := e36
  have c37 : w2.cell? ⟨p, 37, none⟩ = some (.int .i32 (q' - st : Nat)) := e37
  have c38 : w2.cell? ⟨p, 38, none⟩ = some (.int .u16 un) := e38
  obtain ⟨ln, hln⟩ : ∃ ln, q' - st = ln := ⟨_, rfl⟩
  rw [hln] at c37
  have HE := Lib.hid (fun w => end_any st ln w (by omega))
  rw [show st + ln = q' by omega] at HE
  have H2 := Lib.hid (And.intro hn (below_gb H1.out.2 g2 (by have := H1.out.1.lt; omega) hp))
  clear hln hn l2 g2 e0 e10 e17 e18 e19 e20 e21 e32 e33 e35 e36 e37 e38 e39 e40
  go_wp2_with fail
  go_region_held3 (fun w' => w'.cell? ⟨p, 36, none⟩ = some (.int .i32 st) ∧ w'.cell? ⟨p, 37, none⟩ = some (.int .i32 ln) ∧ w'.cell? ⟨p, 38, none⟩ = some (.int .u16 un)) (first | go_keep | exact ⟨(hbel.cell (p := ⟨p, 36, none⟩) hp2).trans c36, (hbel.cell (p := ⟨p, 37, none⟩) hp2).trans c37, (hbel.cell (p := ⟨p, 38, none⟩) hp2).trans c38⟩) (first | (go_at_call 59; refine (HE.out w2.drew).mono ?_; rintro e w' ⟨rfl, hbel⟩))
  go_wp2_with fail
  go_ret3
  exact ⟨q', kd, un, rfl, H2.out.1, (H2.out.2.drew).trans (hbel.mono (by have := H2.out.2.size; simpa using this))⟩
set_option maxRecDepth 100000 in
set_option maxHeartbeats 4000000 in
theorem good (s : ByteArray) (st : Nat) (w : World) (hs : s.size ≤ 65535) (h : st < s.size) (ht : Lib.Utf8Tabs 0 1 w) : Calls Tryd.prog 6 #[.string s, .int .i64 st] w fun e w' => e = .returned (.bool true) ∧ Below w.heap.size w w' := by
  have HT := Lib.hid ht
  have d : decide ((65536 : Int) ≤ (s.size : Int)) = false := decide_eq_false (by omega)
  have hs' : s.size ≤ 1048576 := by omega
  have HS := Lib.hid hs
  clear ht hs
  go_enter Tryd.func6, Tryd.ntmps6
  go_wp2_with fail
  refine (bytes_yes _ _ _ (by omega)).mono ?_
  rintro e w1 ⟨rfl, rfl⟩
  go_wp2_with fail
  refine (wsn_any s st _ h (by have := HS.out; omega)).mono ?_
  rintro e w1 ⟨v, rfl, hv, rfl⟩
  cases v
  · clear hv
    go_wp2_with fail
    go_ret
    exact ⟨rfl, Below.refl _ _⟩
  · have HV := Lib.hid (hv rfl)
    clear hv
    go_wp2_with fail
    refine (z33 s st _ HV.out (by have := HS.out; omega) HT.out).mono ?_
    rintro e w2 ⟨q', kd, un, rfl, ⟨m, ⟨hm1, hm2, hlast⟩, hcase⟩, b2⟩
    have B2 := Lib.hid b2
    clear b2
    rcases hcase with ⟨rfl, _, hq1, hq2, hun⟩ | ⟨rfl, _, hml, hpc, rfl, rfl⟩ | ⟨rfl, _, hnp, rfl, rfl⟩
    · have hun' : un = m - st := by have := HS.out; omega
      have hu0 : 0 < un := by omega
      have hu1 : st + un < q' := by omega
      clear hun hun' hlast
      go_wp2_with fail
      go_ret
      exact ⟨by first | rfl | exact ret_bool (by simp; omega), B2.out⟩
    · have eb := byteAt_get s m hml
      rw [hpc] at eb
      clear hpc hlast
      go_wp2_with fail
      go_ret
      exact ⟨by first | rfl | exact ret_bool (by simp; omega), B2.out⟩
    · obtain ⟨k, rfl⟩ : ∃ k, q' = k + 1 := ⟨q' - 1, by omega⟩
      have hks : k < s.size := by omega
      have hlast : isD (byteAt s k) ∨ byteAt s k = 46 := hlast
      have eb := byteAt_get s k hks
      have hbl := byteAt_lt s k
      obtain ⟨bk, hbk⟩ : ∃ b, byteAt s k = b := ⟨_, rfl⟩
      rw [hbk] at eb hbl hlast
      clear hbk
      rcases (show k + 1 = s.size ∨ k + 1 < s.size by omega) with he | he
      · have t1 : (((k + 1 : Nat) : Int) == (s.size : Int)) = true := by simp; omega
        have t1' : ((k : Int) + 1 == (s.size : Int)) = true := by simp; omega
        have HE := Lib.hid he
        clear hnp he
        rcases hlast with ⟨y1, y2⟩ | rfl
        · go_wp2_with (go_at_call 34; refine (dig_yes _ _ y1 y2).mono ?_; rintro e w4 ⟨rfl, rfl⟩)
          go_ret
          exact ⟨by first | rfl | exact ret_bool (by simp; omega), B2.out⟩
        · go_wp2_with (go_at_call 34; refine (dig_not 46 _ (by omega)).mono ?_; rintro e w4 ⟨rfl, rfl⟩)
          go_ret
          exact ⟨by first | rfl | exact ret_bool (by simp; omega), B2.out⟩
      · have t1 : (((k + 1 : Nat) : Int) == (s.size : Int)) = false := beq_eq_false_iff_ne.2 (by omega)
        have t1' : ((k : Int) + 1 == (s.size : Int)) = false := beq_eq_false_iff_ne.2 (by omega)
        have eb2 := byteAt_get s (k + 1) he
        have hne : (byteAt s (k + 1) : Int) ≠ 37 := by have := hnp he; omega
        have hbl2 := byteAt_lt s (k + 1)
        generalize byteAt s (k + 1) = b2 at eb2 hne hbl2
        have t2 : ((b2 : Int) == 37) = false := beq_eq_false_iff_ne.2 hne
        clear hnp hne
        rcases hlast with ⟨y1, y2⟩ | rfl
        · go_wp2_with (go_at_call 34; refine (dig_yes _ _ y1 y2).mono ?_; rintro e w4 ⟨rfl, rfl⟩)
          go_ret
          exact ⟨ret_bool (by first | rfl | (show (!((b2 : Int) == 37)) = true; rw [t2]; rfl)), B2.out⟩
        · go_wp2_with (go_at_call 34; refine (dig_not 46 _ (by omega)).mono ?_; rintro e w4 ⟨rfl, rfl⟩)
          go_ret
          exact ⟨ret_bool (by first | rfl | (show (!((b2 : Int) == 37)) = true; rw [t2]; rfl)), B2.out⟩

theorem walk (a0 : ByteArray) (a1 : Int) (w0 : a0.size ≤ maxLen) (w1 : (Lit.int .i64 a1).wf = true) (w : World) (hL : laidMetH Tryd.prog Rows.fnConsumeNumericShapeRow.laid w) :
    Calls Tryd.prog 6 #[.string a0, .int .i64 a1] w fun e w' => e = .returned (.bool true) ∧ Below w.heap.size w w' := by
  have ht : Lib.Utf8Tabs 0 1 w := utf8Tabs_of_readsT u8types u8extra (Pinned.utf8First_eq ▸ Lib.laidMet.reads hL (.tail _ (.head _))) (Lib.laidMet.reads hL (.head _))
  by_cases hl : a0.size ≤ 1048576
  · by_cases h2 : a0.size < 65536
    · by_cases h3 : 0 ≤ a1 ∧ a1 < (a0.size : Int)
      · obtain ⟨n, rfl⟩ := Int.eq_ofNat_of_zero_le h3.1
        exact good a0 n w (by omega) (by omega) ht
      · exact bad3 a0 a1 w (by omega) (by omega)
    · exact bad2 a0 a1 w hl (decide_eq_true (by omega))
  · exact bad1 a0 a1 w (by omega) w0

open Go.Lib
set_option maxRecDepth 100000 in
theorem contract (H : Type) (enc : TypeId × Value → H) (W : World) (base : Nat) (args : Array Value) (ds gs : List (DataW H)) (before : List MemPlace)
    (hval : ∀ (j : Nat) t v, Tryd.f6.params[j]? = some t → args[j]? = some v → Value.okWide Tryd.prog W .any base t v)
    (hW : DataW.Whole enc Tryd.prog Tryd.f6.params.toList Rows.fnConsumeNumericShapeSpec.vars false W args.toList ds gs before) (hL : laidMetH Tryd.prog Rows.fnConsumeNumericShapeRow.laid W) :
    Calls Tryd.prog 6 args W fun e W' => ∃ v, e = .returned v ∧ Rows.fnConsumeNumericShapeSpec.post enc Tryd.prog Tryd.f6 false true false false W args v W' := by
  have hW' := hW
  obtain ⟨p, q, hA0, hV, rfl, hfz, hnd⟩ := hW
  have hA : DataW.TrodAll enc Tryd.prog W 0 (fun _ => true) true Tryd.f6.params.toList args.toList ds p := hA0
  rw [Tryd.params6] at hA hval
  obtain ⟨v0, vs0, d0, ds0, p0, q0, hargs, rfl, rfl, h0, r0⟩ := trodAll_cons hA
  obtain ⟨v1, vs1, d1, ds1, p1, q1, rfl, rfl, rfl, h1, r1⟩ := trodAll_cons r0
  obtain ⟨rfl, rfl, rfl⟩ := trodAll_nil r1
  obtain rfl : args = #[v0, v1] := by cases args; simp_all
  obtain ⟨rfl, rfl⟩ := trodVars_none hV
  obtain ⟨a0, rfl, rfl, rfl, w0⟩ := open_string Tryd.underlying9 (hval 0 9 v0 rfl rfl) h0
  obtain ⟨a1, rfl, rfl, rfl, w1⟩ := open_int Tryd.underlying3 (hval 1 3 v1 rfl rfl) h1
  clear hA0
  simp only [List.append_nil] at hW'
  refine (walk a0 a1 w0 w1 W hL).mono fun e W' ⟨he, bel⟩ => ?_
  subst he
  exact ⟨_, rfl, _, _, _, [], _, [], hW', trodAll_mk1 (shut_bool Tryd.underlying4 _), (trodAll_cons_mk (shut_string Tryd.underlying9 w0) (trodAll_cons_mk (shut_int Tryd.underlying3 w1) trodAll_mk0)), rfl, bel.frame _, fun h => by cases h⟩


/-- a world for the witness: the settled one, the listed variables holding what their initialisers lay -/
noncomputable def laidWorld (os : Os) : World :=
  let w0 := World.holding Tryd.prog os ⟨#[], #[], []⟩
  let put (h : Array Obj) (g : Nat) (cs : Array Value) : Array Obj := h.modify g fun
    | .cells _ t frozen => .cells cs t frozen
    | o => o
  let h1 := put w0.heap 1 ((List.range 16).flatMap fun i => [Value.int .u8 (Lib.accLo i), Value.int .u8 (Lib.accHi i)]).toArray
  let h2 := put h1 0 (Lib.firstTab.map fun z => Value.int .u8 z).toArray
  { w0 with heap := h2 }


set_option maxRecDepth 1000000 in
theorem piece0 (os : Os) (args : Array Value) : LaidIn Tryd.prog ((laidWorld os).forCall (fun _ _ => 0) ⟨#[], args, []⟩).memory [("unicode/utf8.acceptRanges", Rows.laid_unicode_utf8_acceptRanges), ("unicode/utf8.first", Rows.laid_unicode_utf8_first)] [1, 0] :=
  LaidIn.of_run [1, 0] 8 (by kernel_rfl) (by kernel_rfl) (by kernel_rfl) (by kernel_rfl)
set_option maxRecDepth 1000000 in
theorem laid_met (os : Os) (args : Array Value) : laidMet Tryd.prog Rows.fnConsumeNumericShapeRow.laid ((laidWorld os).forCall (fun _ _ => 0) ⟨#[], args, []⟩).memory :=
  (piece0 os args).met
theorem witness_row (os : Os) {H : Type} (enc : TypeId × Value → H) :
    (OpenSpec.ofChange Rows.fnConsumeNumericShapeSpec).preRow enc Tryd.prog Tryd.f6 Rows.fnConsumeNumericShapeRow.domain false Rows.fnConsumeNumericShapeRow.laid ((laidWorld os).forCall (fun _ _ => 0) ⟨#[], #[.string ByteArray.empty, .int .i64 0], []⟩).memory #[.string ByteArray.empty, .int .i64 0] := by
  have hw : (DataW.whole enc Tryd.prog ((laidWorld os).forCall (fun _ _ => 0) ⟨#[], #[.string ByteArray.empty, .int .i64 0], []⟩).memory Tryd.f6.params.toList Rows.fnConsumeNumericShapeSpec.vars false (#[.string ByteArray.empty, .int .i64 0] : Array Value).toList 8).map (fun x => (x.1, x.2.1)) =
      some ([.lit (.string []), .lit (.int .i64 0)], []) := by kernel_rfl
  obtain ⟨⟨x1, x2, x3⟩, hx, hx1⟩ := Option.map_eq_some_iff.1 hw
  simp only [Prod.mk.injEq] at hx1
  obtain ⟨rfl, rfl⟩ := hx1
  exact OpenSpec.preRow_of_cond 8 hx (by kernel_rfl) (fun k hk => by cases hk) (by kernel_rfl) (laid_met os _)

set_option maxRecDepth 100000 in
theorem lifted (os : Os) (started : os.Started) (H : Type) (enc : TypeId × Value → H) (F : Stop.Interp) :
    ReturnsInHanded {} Tryd.checked os 6 .any ((OpenSpec.ofChange Rows.fnConsumeNumericShapeSpec).preRow enc Tryd.prog Tryd.f6 Rows.fnConsumeNumericShapeRow.domain false Rows.fnConsumeNumericShapeRow.laid) (((OpenSpec.ofChange Rows.fnConsumeNumericShapeSpec).at F).post enc Tryd.prog Tryd.f6 false true false false) := by
  refine returnsInHanded_of_row (C := Tryd.checked) (s := OpenSpec.ofChange Rows.fnConsumeNumericShapeSpec) own started (by kernel_rfl) Tryd.func6
    (witness_row_atRef (enc := enc) (C := Tryd.checked) false (laidWorld os) #[.string ByteArray.empty, .int .i64 0] rfl (by kernel_rfl) (by kernel_rfl) (by kernel_rfl) (witness_row os enc)) ?_
  intro W base args ds gs before hval hW _ _ _ hL _ _
  exact contract H enc W base args ds gs before hval hW hL

theorem said : Rows.FnConsumeNumericShapeSaid :=
  OpenClaim.holds_of_cond 6 Tryd.f6 rfl rfl rfl rfl rfl rfl rfl ⟨rfl, rfl, rfl, rfl, rfl⟩ rfl rfl rfl rfl rfl (by kernel_rfl) Tryd.func6 (by kernel_rfl)
    (of_decide_eq_true (by kernel_rfl)) (by unfold Func.isWrapper; first | (rw [if_pos (by decide +kernel)]; kernel_rfl) | (rw [if_neg (by decide +kernel)]; exact ⟨rfl, rfl⟩))
    (fun os started H enc _ F => by rw [OpenClaim.pre_eq_preRow]; exact lifted os started H enc F)

/-- No parameter wants a stand-in; the program's own looks are off: what the card asks. -/
theorem plain7 (f : FuncId) (fn : Func) (hf : Tryd.pinned.checked.prog.funcNamed Rows.fnConsumeNumericShapeRow.func = some f) (hfn : Tryd.pinned.checked.prog.funcs[f]? = some fn) :
    false = Tryd.pinned.checked.prog.looks [] ∧ ∀ (j : Nat) t, fn.params[j]? = some t → Tryd.pinned.checked.prog.wantsStandIn t = false := by
  obtain rfl : f = 6 := Option.some.inj ((show Tryd.prog.funcNamed Rows.fnConsumeNumericShapeRow.func = some 6 by kernel_rfl).symm.trans hf) |>.symm
  obtain rfl : fn = Tryd.f6 := (Option.some.inj (Tryd.func6.symm.trans hfn)).symm
  refine ⟨by kernel_rfl, fun j t ht => ?_⟩
  rw [Tryd.params6] at ht
  have hm := Array.mem_of_getElem? ht
  have : t = 9 ∨ t = 3 := by simpa using hm
  rcases this with rfl | rfl
  · exact (show Tryd.prog.wantsStandIn 9 = false by kernel_rfl)
  · exact (show Tryd.prog.wantsStandIn 3 = false by kernel_rfl)

/-- the statement: the tied card -/
theorem proved : Rows.FnConsumeNumericShapeCardSaid :=
  Claim7.holds_tied_plain_at .later [] _ _ _ _ said (fun _ h => by cases h) (by kernel_rfl) (fun _ h => by cases h) fnConsumeNumericShape_row_tie rfl ⟨rfl, rfl⟩ (by kernel_rfl) rfl plain7 (by kernel_rfl)
#print axioms proved
end Go.Proofs.YtlbpplkanogkgaaDoor.fnConsumeNumericShape
