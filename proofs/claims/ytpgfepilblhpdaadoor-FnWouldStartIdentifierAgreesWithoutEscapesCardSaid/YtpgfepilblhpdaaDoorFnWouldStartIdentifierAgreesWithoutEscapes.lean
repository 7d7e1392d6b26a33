/-
  For every text and position the law FnWouldStartIdentifierAgreesWithoutEscapes returns true: on well-formed UTF-8 text without backslashes, at a code point's start, the css lexer's wouldStartIdentifier answers as WouldStartIdentifierWithoutEscapes does on the rest of the text (outside its premise the law returns true too). The card ties the decoder's tables to the program's text.
-/
import Derived.Test.YtpgfepilblhpdaaDoorCards
import Derived.Test.YtpgfepilblhpdaaDoorTie
import Derived.WalkKit
import Derived.ProofKit
import Derived.OpenShut
import Derived.ShutString
import Derived.ChangeOld
import Derived.Below
import Derived.Deep.DeepHandedRow
import Derived.Deep.DeepWitnessRowRef
import Derived.Lib.LaidIn
import Derived.Lib.LaidSlice
import Derived.Lib.LaidU8
import Derived.PinnedBridge
import Derived.OpenVars
import Derived.Lib.LaidU8T
import Derived.PinnedBridge
import Derived.BigQuiet
import Derived.Test.YtpgfepilblhpdaaDoorWs
namespace Go.Proofs.YtpgfepilblhpdaaDoor.fnWouldStartIdentifierAgreesWithoutEscapes
open Go.ChangeShapes Go.WideShapes Go.ChangeAt Go.RowKit
open Go.ChangeMaps (open_string shut_string)
set_option linter.unusedVariables false

theorem own : ownKnob Tryd.prog.godebug = none := by kernel_rfl
theorem laidOut : laidOutB Tryd.prog = true := by kernel_rfl

def u8ren : Go.Shelf.Ren := ⟨fun n => n, fun | 119 => 104 | 138 => 106 | 139 => 107 | n => n, fun | 3 => 0 | 4 => 1 | n => n⟩
theorem u8types : U8Types Tryd.prog u8ren := ⟨Tryd.underlying5, Tryd.underlying104, Tryd.underlying106, Tryd.underlying107⟩
theorem u8extra : U8Extra Tryd.prog u8ren := ⟨by kernel_rfl, by kernel_rfl, by kernel_rfl, by kernel_rfl, by kernel_rfl, by kernel_rfl, by kernel_rfl⟩
theorem bytes_no (s : ByteArray) (n : Int) (w : World) (h : 1048576 < s.size) (hm : s.size ≤ maxLen) : Calls Tryd.prog 10 #[.string s, .int .i64 n] w fun r w' => r = .returned (.bool false) ∧ w = w' := by
  unfold maxLen at hm
  go_enter Tryd.func10, Tryd.ntmps10
  go_wp2
  go_ret
  exact ⟨rfl, rfl⟩
theorem bytes_yes (s : ByteArray) (n : Int) (w : World) (h : s.size ≤ 1048576) : Calls Tryd.prog 10 #[.string s, .int .i64 n] w fun r w' => r = .returned (.bool true) ∧ w = w' := by
  go_enter Tryd.func10, Tryd.ntmps10
  go_wp2
  go_ret
  exact ⟨rfl, rfl⟩
set_option maxRecDepth 100000 in
theorem bad1 (s : ByteArray) (n : Int) (w : World) (h : 1048576 < s.size) (hm : s.size ≤ maxLen) : Calls Tryd.prog 4 #[.string s, .int .i64 n] w fun e w' => e = .returned (.bool true) ∧ Below w.heap.size w w' := by
  go_enter Tryd.func4, Tryd.ntmps4
  go_wp2_with (go_at_call 10; refine (bytes_no _ _ _ h hm).mono ?_; rintro e w1 ⟨rfl, rfl⟩)
  go_ret
  exact ⟨rfl, Below.refl _ _⟩
set_option maxRecDepth 100000 in
theorem bad2 (s : ByteArray) (n : Int) (w : World) (h : s.size ≤ 1048576) (h2 : n < 0 ∨ (0 ≤ n ∧ (s.size : Int) < n)) : Calls Tryd.prog 4 #[.string s, .int .i64 n] w fun e w' => e = .returned (.bool true) ∧ Below w.heap.size w w' := by
  rcases h2 with h2 | ⟨h0, h2⟩
  all_goals
    go_enter Tryd.func4, Tryd.ntmps4
    go_wp2_with (go_at_call 10; refine (bytes_yes _ _ _ (by omega)).mono ?_; rintro e w1 ⟨rfl, rfl⟩)
    go_ret
    exact ⟨rfl, Below.refl _ _⟩
def BdOk (s : ByteArray) (pos : Nat) : Prop := pos < s.size → byteAt s pos < 128 ∨ 191 < byteAt s pos
set_option maxRecDepth 100000 in
theorem bnd_any (s : ByteArray) (pos : Nat) (w : World) (hp : pos ≤ s.size) (hz : s.size ≤ 1048576) : Calls Tryd.prog 11 #[.string s, .int .i64 pos] w fun e w' => ((e = .returned (.bool true) ∧ BdOk s pos) ∨ e = .returned (.bool false)) ∧ w' = w := by
  rcases (show pos = s.size ∨ pos < s.size by omega) with rfl | hl
  · go_enter Tryd.func11, Tryd.ntmps11
    go_wp2
    go_ret
    exact ⟨.inl ⟨rfl, fun c => by omega⟩, rfl⟩
  · have eb := byteAt_get s pos hl
    obtain ⟨b, hb⟩ : ∃ b, byteAt s pos = b := ⟨_, rfl⟩
    rw [hb] at eb
    have HB := Lib.hid hb
    clear hb
    rcases (show b < 128 ∨ (128 ≤ b ∧ 191 < b) ∨ (128 ≤ b ∧ b ≤ 191) by omega) with h1 | ⟨h1, h2⟩ | ⟨h1, h2⟩
    · go_enter Tryd.func11, Tryd.ntmps11
      go_wp2
      go_ret
      exact ⟨.inl ⟨ret_bool (by first | rfl | (simp; omega)), fun c => .inl (by rw [HB.out]; exact h1)⟩, rfl⟩
    · go_enter Tryd.func11, Tryd.ntmps11
      go_wp2
      go_ret
      exact ⟨.inl ⟨ret_bool (by first | rfl | (simp; omega)), fun c => .inr (by rw [HB.out]; exact h2)⟩, rfl⟩
    · go_enter Tryd.func11, Tryd.ntmps11
      go_wp2
      go_ret
      exact ⟨.inr (ret_bool (by first | rfl | (simp; omega))), rfl⟩
/-! the lexer laid at pos -/
noncomputable def cAt (s : ByteArray) (pos : Nat) : Array Value := cellsOf ((Instr.build 91 #[(2, .agg (cSrc s)), (8, .int .i64 pos)]).run Tryd.prog default)
theorem cBuildAt (s : ByteArray) (pos : Nat) (w : World) : (Instr.build 91 #[(2, .agg (cSrc s)), (8, .int .i64 pos)]).run Tryd.prog w = .ok (.agg (cAt s pos)) w := by kernel_rfl
theorem css_of_cat (s : ByteArray) (pos : Nat) {w : World} {p : Nat} (h : Blk w p 91 (cAt s pos)) : Css w p {fresh s false with cur := pos} :=
  ⟨_, h, by kernel_rfl, by kernel_rfl, by kernel_rfl, by kernel_rfl, by kernel_rfl, by kernel_rfl, by kernel_rfl, by kernel_rfl, by kernel_rfl, by kernel_rfl, by kernel_rfl, by kernel_rfl, by kernel_rfl, by kernel_rfl, by kernel_rfl, by kernel_rfl⟩
theorem at_first (s : ByteArray) (pos : Nat) (h : pos ≤ s.size) : ({fresh s false with cur := pos} : Lx).step = (fresh s false).at (cntNL s pos) pos := by
  have hc := cnt_dec s pos h
  unfold Lx.step Lx.at fresh
  simp only [hc]
  congr 1
  omega
set_option maxRecDepth 100000 in
set_option maxHeartbeats 2000000 in
theorem zzw_any (s : ByteArray) (pos : Nat) (w : World) (hp : pos ≤ s.size) (hz : s.size ≤ 1048576) (ht : Lib.Utf8Tabs 0 1 w) : Calls Tryd.prog 14 #[.string s, .int .i64 pos] w fun e w' => e = .returned (.bool (wsi s pos)) ∧ Below w.heap.size w w' := by
  have w0 : 1 < w.heap.size := World.block_lt_of_cell? w ⟨1, 0, none⟩ (ht.2 0 (by decide)).1
  have hc := css_of_cat s pos (Blk.new w 91 (cAt s pos))
  have hb0 : Below w.heap.size w (w.alloc (.cells (cAt s pos) 91)) := (Below.refl _ _).alloc (Nat.le_refl _) _
  have tabs := tabs_below ht hb0 (by omega) (by omega)
  have hst := css_step w.heap.size _ _ hc hp (show s.size ≤ 2097152 by omega) (Nat.zero_le _) (Nat.zero_le _) tabs
  rw [at_first s pos hp] at hst
  have HS := Lib.hid (And.intro hst (And.intro tabs hb0))
  clear hst tabs hb0 hc ht
  go_enter Tryd.func14, Tryd.ntmps14
  go_wp2_with (first | (refine wpList_build rfl 59 _ rfl [(2, .string s)] rfl (cSrc s) (cBuild47 s) ?_) | (refine wpList_build rfl 91 _ rfl [(2, .agg (cSrc s)), (8, .int .i64 pos)] rfl (cAt s pos) (cBuildAt s pos) ?_))
  refine HS.out.1.mono ?_
  rintro e w1 ⟨rfl, c1, g1⟩
  have l1 : Lex w1 w.heap.size (fresh s false) (cntNL s pos) pos := ⟨c1, hp, Nat.zero_le _, show s.size ≤ 2097152 by omega, Nat.le_refl _, tabs_gbn HS.out.2.1 g1 (by simp; omega) (by simp; omega), by omega⟩
  have hbw : Below w.heap.size w w1 := below_gb HS.out.2.2 g1 (by simp) (Nat.le_refl _)
  have HL := Lib.hid (And.intro l1 hbw)
  clear l1 hbw c1 g1
  go_wp2_with fail
  refine (wsi_any w.heap.size (fresh s false) (cntNL s pos) pos w1 HL.out.1).mono ?_
  rintro e w2 ⟨rfl, b2⟩
  have HB := Lib.hid (HL.out.2.trans (b2.mono HL.out.2.size))
  clear b2
  go_wp2_with fail
  go_ret
  exact ⟨rfl, HB.out⟩
/-! the exported twin -/
theorem dg_ext (s : ByteArray) (pos n : Nat) (hp : pos ≤ s.size) : dg (s.extract pos s.size) n = dg s (pos + n) := by
  have hz : (s.extract pos s.size).size = s.size - pos := by simp
  unfold dg
  rw [hz]
  by_cases h : pos + n < s.size
  · rw [if_pos (by omega), if_pos h, Lib.decode_at, Lib.decode_at, hz, ext_get!, ext_get!, ext_get!, ext_get!]
    rw [show s.size - pos - n = s.size - (pos + n) by omega]
    simp only [Nat.add_assoc]
  · rw [if_neg (by omega), if_neg h]
theorem woe_ext (s : ByteArray) (pos : Nat) (hp : pos ≤ s.size) : woe (s.extract pos s.size) 0 = woe s pos := by
  unfold woe
  rw [dg_ext s pos 0 hp, dg_ext s pos (0 + (dg s (pos + 0)).2) hp]
  simp only [Nat.add_zero, Nat.zero_add]
theorem dri0 (T : ByteArray) (c W : Nat) (w : World) (ht : Lib.Utf8Tabs 0 1 w) (h : dg T 0 = (c, W)) : Calls Tryd.prog 24 #[.string T] w fun e w' => e = .returned (.tuple #[.int .i32 c, .int .i64 W]) ∧ Below w.heap.size w w' := by
  have e : T.extract 0 T.size = T := by simp
  have := dri2 T 0 c W w ht h
  rwa [e] at this
set_option maxRecDepth 100000 in
set_option maxHeartbeats 2000000 in
theorem woe_any (T : ByteArray) (w : World) (hz : T.size ≤ 1048576) (ht : Lib.Utf8Tabs 0 1 w) : Calls Tryd.prog 15 #[.string T] w fun e w' => e = .returned (.bool (woe T 0)) ∧ Below w.heap.size w w' := by
  have w0 : 1 < w.heap.size := World.block_lt_of_cell? w ⟨1, 0, none⟩ (ht.2 0 (by decide)).1
  obtain ⟨c, W, hd⟩ : ∃ c W, dg T 0 = (c, W) := ⟨_, _, rfl⟩
  have hle := dg_le T 0 (Nat.zero_le _)
  rw [hd, Nat.zero_add] at hle
  simp only at hle
  have HD := Lib.hid (And.intro hd ht)
  have hns := fun w => ns_any (c : Int) w
  clear hd ht
  by_cases he : c = 65533 ∧ W ≤ 1
  · obtain ⟨rfl, hW⟩ := he
    have HV : Hid (woe T 0 = false) := Lib.hid (by unfold woe; rw [HD.out.1, if_pos ⟨rfl, hW⟩])
    clear hns
    go_enter Tryd.func15, Tryd.ntmps15
    go_wp2_with fail
    refine (dri0 T _ W w HD.out.2 HD.out.1).mono ?_
    rintro e w1 ⟨rfl, b1⟩
    have HB := Lib.hid b1
    clear b1
    go_wp2
    go_ret
    exact ⟨ret_bool HV.out.symm, HB.out⟩
  · have hne : c ≠ 65533 ∨ (c = 65533 ∧ 1 < W) := by omega
    cases hnc : nameStart (c : Int)
    · have hc65 : c ≠ 65533 := by
        rintro rfl
        have : nameStart ((65533 : Nat) : Int) = true := rfl
        rw [this] at hnc; cases hnc
      have t1 : ((c : Int) == 65533) = false := beq_eq_false_iff_ne.2 (by omega)
      rw [hnc] at hns
      have HN := Lib.hid hns
      clear hns
      by_cases h45 : c = 45
      · subst h45
        obtain ⟨c2, W2, hd2⟩ : ∃ c W', dg T W = (c, W') := ⟨_, _, rfl⟩
        have hns2 := fun w => ns_any (c2 : Int) w
        have HD2 := Lib.hid hd2
        have f1 : (0 : Int) ≤ (W : Int) := by omega
        have f2 : (W : Int) ≤ (T.size : Int) := by omega
        have HV : Hid (woe T 0 = if c2 = 65533 ∧ W2 ≤ 1 then false else nameStart (c2 : Int) || decide ((c2 : Int) = 45)) := Lib.hid (by
          unfold woe
          rw [HD.out.1]
          simp only [Nat.zero_add]
          rw [hd2, if_neg he, hnc, if_neg (by decide), if_pos trivial])
        clear hd2 hnc
        by_cases he2 : c2 = 65533 ∧ W2 ≤ 1
        · have HV2 := Lib.hid (HV.out.trans (if_pos he2))
          obtain ⟨rfl, hW2⟩ := he2
          clear hns2 HV
          go_enter Tryd.func15, Tryd.ntmps15
          go_wp2_with fail
          refine (dri0 T _ W w HD.out.2 HD.out.1).mono ?_
          rintro e w1 ⟨rfl, b1⟩
          have HB := Lib.hid b1
          clear b1
          go_wp2_with fail
          refine (HN.out _).mono ?_
          rintro e w2 ⟨rfl, rfl⟩
          go_wp2_with fail
          refine (dri2 T W _ W2 w1 (tabs_below HD.out.2 HB.out (by omega) (by omega)) HD2.out).mono ?_
          rintro e w3 ⟨rfl, b3⟩
          have HB3 := Lib.hid (HB.out.trans (b3.mono HB.out.size))
          clear b3
          go_wp2
          go_ret
          exact ⟨ret_bool HV2.out.symm, HB3.out⟩
        · have HV2 := Lib.hid (HV.out.trans (if_neg he2))
          clear HV
          have hne2 : c2 ≠ 65533 ∨ (c2 = 65533 ∧ 1 < W2) := by omega
          cases hnc2 : nameStart (c2 : Int)
          · have hc65' : c2 ≠ 65533 := by
              rintro rfl
              have : nameStart ((65533 : Nat) : Int) = true := rfl
              rw [this] at hnc2; cases hnc2
            have t3 : ((c2 : Int) == 65533) = false := beq_eq_false_iff_ne.2 (by omega)
            rw [hnc2] at hns2
            rw [hnc2] at HV2
            have HN2 := Lib.hid hns2
            clear hns2 hnc2 hne2 he2
            by_cases h452 : c2 = 45
            · subst h452
              go_enter Tryd.func15, Tryd.ntmps15
              go_wp2_with fail
              refine (dri0 T _ W w HD.out.2 HD.out.1).mono ?_
              rintro e w1 ⟨rfl, b1⟩
              have HB := Lib.hid b1
              clear b1
              go_wp2_with fail
              refine (HN.out _).mono ?_
              rintro e w2 ⟨rfl, rfl⟩
              go_wp2_with fail
              refine (dri2 T W _ W2 w1 (tabs_below HD.out.2 HB.out (by omega) (by omega)) HD2.out).mono ?_
              rintro e w3 ⟨rfl, b3⟩
              have HB3 := Lib.hid (HB.out.trans (b3.mono HB.out.size))
              clear b3
              go_wp2_with fail
              refine (HN2.out _).mono ?_
              rintro e w4 ⟨rfl, rfl⟩
              go_wp2
              go_ret
              exact ⟨ret_bool (by rw [HV2.out]; rfl), HB3.out⟩
            · have t4 : ((c2 : Int) == 45) = false := beq_eq_false_iff_ne.2 (by omega)
              have HV3 : Hid (woe T 0 = false) := Lib.hid (by rw [HV2.out, decide_eq_false (by omega)]; rfl)
              go_enter Tryd.func15, Tryd.ntmps15
              go_wp2_with fail
              refine (dri0 T _ W w HD.out.2 HD.out.1).mono ?_
              rintro e w1 ⟨rfl, b1⟩
              have HB := Lib.hid b1
              clear b1
              go_wp2_with fail
              refine (HN.out _).mono ?_
              rintro e w2 ⟨rfl, rfl⟩
              go_wp2_with fail
              refine (dri2 T W _ W2 w1 (tabs_below HD.out.2 HB.out (by omega) (by omega)) HD2.out).mono ?_
              rintro e w3 ⟨rfl, b3⟩
              have HB3 := Lib.hid (HB.out.trans (b3.mono HB.out.size))
              clear b3
              go_wp2_with fail
              refine (HN2.out _).mono ?_
              rintro e w4 ⟨rfl, rfl⟩
              go_wp2
              go_ret
              exact ⟨ret_bool HV3.out.symm, HB3.out⟩
          · rw [hnc2] at hns2
            have HV3 : Hid (woe T 0 = true) := Lib.hid (by rw [HV2.out, hnc2]; rfl)
            have HN2 := Lib.hid hns2
            clear hns2 hnc2 he2
            rcases hne2 with h | ⟨h, h'⟩
            · have t3 : ((c2 : Int) == 65533) = false := beq_eq_false_iff_ne.2 (by omega)
              go_enter Tryd.func15, Tryd.ntmps15
              go_wp2_with fail
              refine (dri0 T _ W w HD.out.2 HD.out.1).mono ?_
              rintro e w1 ⟨rfl, b1⟩
              have HB := Lib.hid b1
              clear b1
              go_wp2_with fail
              refine (HN.out _).mono ?_
              rintro e w2 ⟨rfl, rfl⟩
              go_wp2_with fail
              refine (dri2 T W _ W2 w1 (tabs_below HD.out.2 HB.out (by omega) (by omega)) HD2.out).mono ?_
              rintro e w3 ⟨rfl, b3⟩
              have HB3 := Lib.hid (HB.out.trans (b3.mono HB.out.size))
              clear b3
              go_wp2_with fail
              refine (HN2.out _).mono ?_
              rintro e w4 ⟨rfl, rfl⟩
              go_wp2
              go_ret
              exact ⟨ret_bool HV3.out.symm, HB3.out⟩
            · subst h
              go_enter Tryd.func15, Tryd.ntmps15
              go_wp2_with fail
              refine (dri0 T _ W w HD.out.2 HD.out.1).mono ?_
              rintro e w1 ⟨rfl, b1⟩
              have HB := Lib.hid b1
              clear b1
              go_wp2_with fail
              refine (HN.out _).mono ?_
              rintro e w2 ⟨rfl, rfl⟩
              go_wp2_with fail
              refine (dri2 T W _ W2 w1 (tabs_below HD.out.2 HB.out (by omega) (by omega)) HD2.out).mono ?_
              rintro e w3 ⟨rfl, b3⟩
              have HB3 := Lib.hid (HB.out.trans (b3.mono HB.out.size))
              clear b3
              go_wp2_with fail
              refine (HN2.out _).mono ?_
              rintro e w4 ⟨rfl, rfl⟩
              go_wp2
              go_ret
              exact ⟨ret_bool HV3.out.symm, HB3.out⟩
      · have t2 : ((c : Int) == 45) = false := beq_eq_false_iff_ne.2 (by omega)
        have HV : Hid (woe T 0 = false) := Lib.hid (by unfold woe; rw [HD.out.1, if_neg he, hnc, if_neg (by decide), if_neg h45])
        clear hnc
        go_enter Tryd.func15, Tryd.ntmps15
        go_wp2_with fail
        refine (dri0 T _ W w HD.out.2 HD.out.1).mono ?_
        rintro e w1 ⟨rfl, b1⟩
        have HB := Lib.hid b1
        clear b1
        go_wp2_with fail
        refine (HN.out _).mono ?_
        rintro e w2 ⟨rfl, rfl⟩
        go_wp2
        go_ret
        exact ⟨ret_bool HV.out.symm, HB.out⟩
    · rw [hnc] at hns
      have HV : Hid (woe T 0 = true) := Lib.hid (by unfold woe; rw [HD.out.1, if_neg he, hnc, if_pos rfl])
      have HN := Lib.hid hns
      clear hns hnc he
      rcases hne with h | ⟨h, h'⟩
      · have t1 : ((c : Int) == 65533) = false := beq_eq_false_iff_ne.2 (by omega)
        go_enter Tryd.func15, Tryd.ntmps15
        go_wp2_with fail
        refine (dri0 T _ W w HD.out.2 HD.out.1).mono ?_
        rintro e w1 ⟨rfl, b1⟩
        have HB := Lib.hid b1
        clear b1
        go_wp2_with fail
        refine (HN.out _).mono ?_
        rintro e w2 ⟨rfl, rfl⟩
        go_wp2
        go_ret
        exact ⟨ret_bool HV.out.symm, HB.out⟩
      · subst h
        go_enter Tryd.func15, Tryd.ntmps15
        go_wp2_with fail
        refine (dri0 T _ W w HD.out.2 HD.out.1).mono ?_
        rintro e w1 ⟨rfl, b1⟩
        have HB := Lib.hid b1
        clear b1
        go_wp2_with fail
        refine (HN.out _).mono ?_
        rintro e w2 ⟨rfl, rfl⟩
        go_wp2
        go_ret
        exact ⟨ret_bool HV.out.symm, HB.out⟩
set_option maxRecDepth 100000 in
set_option maxHeartbeats 2000000 in
theorem good (s : ByteArray) (pos : Nat) (w : World) (hp : pos ≤ s.size) (hz : s.size ≤ 1048576) (ht : Lib.Utf8Tabs 0 1 w) : Calls Tryd.prog 4 #[.string s, .int .i64 pos] w fun e w' => e = .returned (.bool true) ∧ Below w.heap.size w w' := by
  have w0 : 1 < w.heap.size := World.block_lt_of_cell? w ⟨1, 0, none⟩ (ht.2 0 (by decide)).1
  have HT := Lib.hid ht
  clear ht
  have f1 : (0 : Int) ≤ (pos : Int) := by omega
  have f2 : (pos : Int) ≤ (s.size : Int) := by omega
  have f3 : decide ((s.size : Int) < (pos : Int)) = false := decide_eq_false (by omega)
  have f4 : decide (s.size < pos) = false := decide_eq_false (by omega)
  go_enter Tryd.func4, Tryd.ntmps4
  go_wp2_with fail
  refine (bytes_yes _ _ _ hz).mono ?_
  rintro e w1 ⟨rfl, rfl⟩
  go_wp2_with fail
  refine (bnd_any s pos _ hp hz).mono ?_
  rintro e w1 ⟨⟨rfl, hbd⟩ | rfl, rfl⟩
  · have HBD := Lib.hid hbd
    clear hbd
    go_wp2_with fail
    refine (hb_any s _ hz).mono ?_
    rintro e w2 ⟨rfl | ⟨rfl, hnb⟩, rfl⟩
    · go_wp2_with fail
      go_ret
      exact ⟨rfl, Below.refl _ _⟩
    · have HNB := Lib.hid hnb
      clear hnb
      go_wp2_with fail
      refine (av_any s pos _ hz HBD.out).mono ?_
      rintro e w3 ⟨rfl | ⟨rfl, hvis⟩, rfl⟩
      · go_wp2_with fail
        go_ret
        exact ⟨rfl, Below.refl _ _⟩
      · have HE := Lib.hid (show wsi s pos = woe (s.extract pos s.size) 0 from (wsi_woe HNB.out hp hvis).trans (woe_ext s pos hp).symm)
        clear hvis
        have hxz : (s.extract pos s.size).size ≤ 1048576 := by simp; omega
        have HXZ := Lib.hid hxz
        clear hxz
        go_wp2_with fail
        have w0h : 0 < w3.heap.size := by omega
        go_region_held3 (fun w' => Below w3.heap.size w3 w') (first | exact (Below.refl w3.heap.size w3).drew | exact ((Below.refl w3.heap.size w3).drew).trans hA | exact (((Below.refl w3.heap.size w3).drew).trans hA).trans (hB.mono hA.size)) (first | (go_at_call 14; refine (zzw_any s pos w3.drew hp hz HT.out).mono ?_; rintro e wA ⟨rfl, hA⟩) | (go_at_call 15; refine (woe_any _ wA HXZ.out (tabs_below HT.out (((Below.refl w3.heap.size w3).drew).trans hA) w0h w0)).mono ?_; rintro e wB ⟨rfl, hB⟩))
        rw [HE.out]
        go_wp2
        go_ret
        exact ⟨by first | rfl | exact ret_bool (by simp), (((Below.refl w3.heap.size w3).drew).trans hA).trans (hB.mono hA.size)⟩
  · go_wp2_with fail
    go_ret
    exact ⟨rfl, Below.refl _ _⟩

theorem walk (a0 : ByteArray) (a1 : Int) (w0 : a0.size ≤ maxLen) (w1 : (Lit.int .i64 a1).wf = true) (w : World) (hL : laidMetH Tryd.prog Rows.fnWouldStartIdentifierAgreesWithoutEscapesRow.laid w) :
    Calls Tryd.prog 4 #[.string a0, .int .i64 a1] w fun e w' => e = .returned (.bool true) ∧ Below w.heap.size w w' := by
  have ht : Lib.Utf8Tabs 0 1 w := utf8Tabs_of_readsT u8types u8extra (Pinned.utf8First_eq ▸ Lib.laidMet.reads hL (.tail _ (.head _))) (Lib.laidMet.reads hL (.head _))
  by_cases hl : a0.size ≤ 1048576
  · by_cases h3 : 0 ≤ a1 ∧ a1 ≤ (a0.size : Int)
    · obtain ⟨n, rfl⟩ := Int.eq_ofNat_of_zero_le h3.1
      exact good a0 n w (by omega) hl ht
    · exact bad2 a0 a1 w hl (by omega)
  · exact bad1 a0 a1 w (by omega) w0

open Go.Lib
set_option maxRecDepth 100000 in
theorem contract (H : Type) (enc : TypeId × Value → H) (W : World) (base : Nat) (args : Array Value) (ds gs : List (DataW H)) (before : List MemPlace)
    (hval : ∀ (j : Nat) t v, Tryd.f4.params[j]? = some t → args[j]? = some v → Value.okWide Tryd.prog W .any base t v)
    (hW : DataW.Whole enc Tryd.prog Tryd.f4.params.toList Rows.fnWouldStartIdentifierAgreesWithoutEscapesSpec.vars false W args.toList ds gs before) (hL : laidMetH Tryd.prog Rows.fnWouldStartIdentifierAgreesWithoutEscapesRow.laid W) :
    Calls Tryd.prog 4 args W fun e W' => ∃ v, e = .returned v ∧ Rows.fnWouldStartIdentifierAgreesWithoutEscapesSpec.post enc Tryd.prog Tryd.f4 false true false false W args v W' := by
  have hW' := hW
  obtain ⟨p, q, hA0, hV, rfl, hfz, hnd⟩ := hW
  have hA : DataW.TrodAll enc Tryd.prog W 0 (fun _ => true) true Tryd.f4.params.toList args.toList ds p := hA0
  rw [Tryd.params4] at hA hval
  obtain ⟨v0, vs0, d0, ds0, p0, q0, hargs, rfl, rfl, h0, r0⟩ := trodAll_cons hA
  obtain ⟨v1, vs1, d1, ds1, p1, q1, rfl, rfl, rfl, h1, r1⟩ := trodAll_cons r0
  obtain ⟨rfl, rfl, rfl⟩ := trodAll_nil r1
  obtain rfl : args = #[v0, v1] := by cases args; simp_all
  obtain ⟨rfl, rfl⟩ := trodVars_none hV
  obtain ⟨a0, rfl, rfl, rfl, w0⟩ := open_string Tryd.underlying9 (hval 0 9 v0 rfl rfl) h0
  obtain ⟨a1, rfl, rfl, rfl, w1⟩ := open_int Tryd.underlying3 (hval 1 3 v1 rfl rfl) h1
  clear hA0
  simp only [List.append_nil] at hW'
  refine (walk a0 a1 w0 w1 W hL).mono fun e W' ⟨he, bel⟩ => ?_
  subst he
  exact ⟨_, rfl, _, _, _, [], _, [], hW', trodAll_mk1 (shut_bool Tryd.underlying4 _), (trodAll_cons_mk (shut_string Tryd.underlying9 w0) (trodAll_cons_mk (shut_int Tryd.underlying3 w1) trodAll_mk0)), rfl, bel.frame _, fun h => by cases h⟩


/-- a world for the witness: the settled one, the listed variables holding what their initialisers lay -/
noncomputable def laidWorld (os : Os) : World :=
  let w0 := World.holding Tryd.prog os ⟨#[], #[], []⟩
  let put (h : Array Obj) (g : Nat) (cs : Array Value) : Array Obj := h.modify g fun
    | .cells _ t frozen => .cells cs t frozen
    | o => o
  let h1 := put w0.heap 1 ((List.range 16).flatMap fun i => [Value.int .u8 (Lib.accLo i), Value.int .u8 (Lib.accHi i)]).toArray
  let h2 := put h1 0 (Lib.firstTab.map fun z => Value.int .u8 z).toArray
  { w0 with heap := h2 }


set_option maxRecDepth 1000000 in
theorem piece0 (os : Os) (args : Array Value) : LaidIn Tryd.prog ((laidWorld os).forCall (fun _ _ => 0) ⟨#[], args, []⟩).memory [("unicode/utf8.acceptRanges", Rows.laid_unicode_utf8_acceptRanges), ("unicode/utf8.first", Rows.laid_unicode_utf8_first)] [1, 0] :=
  LaidIn.of_run [1, 0] 8 (by kernel_rfl) (by kernel_rfl) (by kernel_rfl) (by kernel_rfl)
set_option maxRecDepth 1000000 in
theorem laid_met (os : Os) (args : Array Value) : laidMet Tryd.prog Rows.fnWouldStartIdentifierAgreesWithoutEscapesRow.laid ((laidWorld os).forCall (fun _ _ => 0) ⟨#[], args, []⟩).memory :=
  (piece0 os args).met
theorem witness_row (os : Os) {H : Type} (enc : TypeId × Value → H) :
    (OpenSpec.ofChange Rows.fnWouldStartIdentifierAgreesWithoutEscapesSpec).preRow enc Tryd.prog Tryd.f4 Rows.fnWouldStartIdentifierAgreesWithoutEscapesRow.domain false Rows.fnWouldStartIdentifierAgreesWithoutEscapesRow.laid ((laidWorld os).forCall (fun _ _ => 0) ⟨#[], #[.string ByteArray.empty, .int .i64 0], []⟩).memory #[.string ByteArray.empty, .int .i64 0] := by
  have hw : (DataW.whole enc Tryd.prog ((laidWorld os).forCall (fun _ _ => 0) ⟨#[], #[.string ByteArray.empty, .int .i64 0], []⟩).memory Tryd.f4.params.toList Rows.fnWouldStartIdentifierAgreesWithoutEscapesSpec.vars false (#[.string ByteArray.empty, .int .i64 0] : Array Value).toList 8).map (fun x => (x.1, x.2.1)) =
      some ([.lit (.string []), .lit (.int .i64 0)], []) := by kernel_rfl
  obtain ⟨⟨x1, x2, x3⟩, hx, hx1⟩ := Option.map_eq_some_iff.1 hw
  simp only [Prod.mk.injEq] at hx1
  obtain ⟨rfl, rfl⟩ := hx1
  exact OpenSpec.preRow_of_cond 8 hx (by kernel_rfl) (fun k hk => by cases hk) (by kernel_rfl) (laid_met os _)

set_option maxRecDepth 100000 in
theorem lifted (os : Os) (started : os.Started) (H : Type) (enc : TypeId × Value → H) (F : Stop.Interp) :
    ReturnsInHanded {} Tryd.checked os 4 .any ((OpenSpec.ofChange Rows.fnWouldStartIdentifierAgreesWithoutEscapesSpec).preRow enc Tryd.prog Tryd.f4 Rows.fnWouldStartIdentifierAgreesWithoutEscapesRow.domain false Rows.fnWouldStartIdentifierAgreesWithoutEscapesRow.laid) (((OpenSpec.ofChange Rows.fnWouldStartIdentifierAgreesWithoutEscapesSpec).at F).post enc Tryd.prog Tryd.f4 false true false false) := by
  refine returnsInHanded_of_row (C := Tryd.checked) (s := OpenSpec.ofChange Rows.fnWouldStartIdentifierAgreesWithoutEscapesSpec) own started (by kernel_rfl) Tryd.func4
    (witness_row_atRef (enc := enc) (C := Tryd.checked) false (laidWorld os) #[.string ByteArray.empty, .int .i64 0] rfl (by kernel_rfl) (by kernel_rfl) (by kernel_rfl) (witness_row os enc)) ?_
  intro W base args ds gs before hval hW _ _ _ hL _ _
  exact contract H enc W base args ds gs before hval hW hL

theorem said : Rows.FnWouldStartIdentifierAgreesWithoutEscapesSaid :=
  OpenClaim.holds_of_cond 4 Tryd.f4 rfl rfl rfl rfl rfl rfl rfl ⟨rfl, rfl, rfl, rfl, rfl⟩ rfl rfl rfl rfl rfl (by kernel_rfl) Tryd.func4 (by kernel_rfl)
    (of_decide_eq_true (by kernel_rfl)) (by unfold Func.isWrapper; first | (rw [if_pos (by decide +kernel)]; kernel_rfl) | (rw [if_neg (by decide +kernel)]; exact ⟨rfl, rfl⟩))
    (fun os started H enc _ F => by rw [OpenClaim.pre_eq_preRow]; exact lifted os started H enc F)

/-- No parameter wants a stand-in; the program's own looks are off: what the card asks. -/
theorem plain7 (f : FuncId) (fn : Func) (hf : Tryd.pinned.checked.prog.funcNamed Rows.fnWouldStartIdentifierAgreesWithoutEscapesRow.func = some f) (hfn : Tryd.pinned.checked.prog.funcs[f]? = some fn) :
    false = Tryd.pinned.checked.prog.looks [] ∧ ∀ (j : Nat) t, fn.params[j]? = some t → Tryd.pinned.checked.prog.wantsStandIn t = false := by
  obtain rfl : f = 4 := Option.some.inj ((show Tryd.prog.funcNamed Rows.fnWouldStartIdentifierAgreesWithoutEscapesRow.func = some 4 by kernel_rfl).symm.trans hf) |>.symm
  obtain rfl : fn = Tryd.f4 := (Option.some.inj (Tryd.func4.symm.trans hfn)).symm
  refine ⟨by kernel_rfl, fun j t ht => ?_⟩
  rw [Tryd.params4] at ht
  have hm := Array.mem_of_getElem? ht
  have : t = 9 ∨ t = 3 := by simpa using hm
  rcases this with rfl | rfl
  · exact (show Tryd.prog.wantsStandIn 9 = false by kernel_rfl)
  · exact (show Tryd.prog.wantsStandIn 3 = false by kernel_rfl)

/-- the statement: the tied card -/
theorem proved : Rows.FnWouldStartIdentifierAgreesWithoutEscapesCardSaid :=
  Claim7.holds_tied_plain_at .later [] _ _ _ _ said (fun _ h => by cases h) (by kernel_rfl) (fun _ h => by cases h) fnWouldStartIdentifierAgreesWithoutEscapes_row_tie rfl ⟨rfl, rfl⟩ (by kernel_rfl) rfl plain7 (by kernel_rfl)
#print axioms proved
end Go.Proofs.YtpgfepilblhpdaaDoor.fnWouldStartIdentifierAgreesWithoutEscapes
