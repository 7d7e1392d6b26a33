/-
  The css lexer's next on texts that hold no slash, backslash, quote or opening parenthesis: one theorem a class of code points (printed by gennext.py). No statement of the seat is proved here.
-/
import Derived.Test.YtlbpplkanogkgaaDoorCssNxtP
import Derived.Deep.LoopGhost
namespace Go.Proofs.YtlbpplkanogkgaaDoor
open Go.RowKit
set_option linter.unusedVariables false
set_option maxRecDepth 100000 in
set_option maxHeartbeats 8000000 in
theorem nx_ws32 (p : Nat) (x : Lx) (b q : Nat) (w : World) (h : Lex w p x b q) (hc : (decAt x.s q).1 = 32) (hs : Safe x.s) : Calls Tryd.prog 72 #[.pointer (some ⟨p, 0, none⟩)] w (Tok w p x b q) := by
  obtain ⟨c10, c33, c35, c36, c37⟩ := h.cells
  rw [hc] at c35
  obtain ⟨ln, hln⟩ : ∃ ln, q - x.st = ln := ⟨_, rfl⟩
  rw [hln] at c37
  have hst := h.hst
  have hq := h.hq
  have hsz := h.hsz
  have hp := h.lt
  have HE := Lib.hid (fun w => end_any x.st ln w (by omega))
  rw [show x.st + ln = q by omega] at HE
  have H := Lib.hid (And.intro h hc)
  clear h hc hln
  have HSF := Lib.hid hs
  clear hs
  go_enter Tryd.func72, Tryd.ntmps72
  go_wp2_with fail
  refine wp_loop_rounds 1 ?_
  rw [rounds_succ]
  go_wp2_with fail
  refine (HE.out _).mono ?_
  rintro e w1 ⟨rfl, b1⟩
  have l1 := H.out.1.kept b1
  have g1 : w.grownBy w1 (some p) := gb_of_below _ b1
  have H1 := Lib.hid (And.intro (tok_reset l1) (tok_gb g1 q))
  have f := l1.css.free
  have f36 := f 36
  have f37 := f 37
  have f38 := f 38
  have f39 := f 39
  have f40 := f 40
  have hp1 := l1.lt
  obtain ⟨e0, e10, e17, e18, e19, e20, e21, e32, e33, y35, e36, e37, e38, e39, e40⟩ := l1.css.cells
  have e35 : w1.cell? ⟨p, 35, none⟩ = some (.int .i32 32) := y35.trans (by rw [show (x.at b q).cp = 32 from H.out.2])
  clear f b1 l1 g1 y35 c10 c33 c35 c36 c37 e0 e10 e17 e18 e19 e20 e21 e32 e33
  go_wp2_with fail
  have hst2 := lex_step p (reset x q) b q _ H1.out.1
  rw [show (decAt (reset x q).s q).2 = 1 from (decAt_small x.s q H.out.2 (by omega) (by omega)).2.2] at hst2
  refine hst2.mono ?_
  rintro e w2 ⟨rfl, l2, g2⟩
  have f39 := l2.css.free 39
  obtain ⟨v39, k39⟩ := cell_any l2 39 (by omega)
  have H2 := Lib.hid (And.intro l2 (gb_trans H1.out.2 g2))
  clear hst2 l2 g2 e35 e36 e37 e38 e39 e40
  have hq1 : q + 1 ≤ x.s.size := (decAt_small x.s q H.out.2 (by omega) (by omega)).1
  clear f39 k39
  go_wp2_with fail
  go_loopg [] (x.s.size - (q + 1)) (fun k wr => WRel w p x b q k wr)
  case atStart => exact ⟨q + 1, by omega, H2.out.1, Nat.le_refl _, H2.out.2⟩
  case round =>
    obtain ⟨q2, hq2, l3, hk3, g3⟩ := hrel
    obtain ⟨z10, z33, zz35, z36, z37⟩ := l3.cells
    have hp3 := l3.lt
    have hq3 : q2 ≤ x.s.size := l3.hq
    obtain ⟨c2, hc2⟩ : ∃ c, (decAt x.s q2).1 = c := ⟨_, rfl⟩
    have z35 : wr.cell? ⟨p, 35, none⟩ = some (.int .i32 c2) := zz35.trans (by rw [show (decAt (reset x q).s q2).1 = c2 from hc2])
    have hne := (safe_cp HSF.out q2).1
    rw [hc2] at hne
    have f39 := l3.css.free 39
    obtain ⟨v39, k39⟩ := cell_any l3 39 (by omega)
    have H3 := Lib.hid (And.intro l3 (And.intro g3 hc2))
    have hws := ws_any c2 wr
    clear l3 g3 hc2 zz35 z10 z33 z36 z37
    cases hw : isWS c2
    · rw [hw] at hws
      have HWS := Lib.hid hws
      have t1 : (c2 == 47) = false := beq_eq_false_iff_ne.2 hne
      clear hw hws hne
      go_wp2_with fail
      refine HWS.out.mono ?_
      rintro e w4 ⟨rfl, rfl⟩
      go_wp2_with fail
      go_quiet (fail)
      go_wp2_with fail
      go_end0
      exact tok_done H3.out.1.drewN' (gb_drewN H3.out.2.1) 38 (tokP_plain hq2 hq3 (by decide) (by decide))
    · rw [hw] at hws
      have HWS := Lib.hid hws
      have HLT : Hid (q2 < x.s.size) := Lib.hid (by
        have : 0 ≤ c2 ∧ c2 < 128 := by simp only [isWS, decide_eq_true_eq] at hw; omega
        exact (decAt_small x.s q2 H3.out.2.2 this.1 this.2).1)
      clear hw hws hne
      go_wp2_with fail
      refine HWS.out.mono ?_
      rintro e w4 ⟨rfl, rfl⟩
      go_wp2_with fail
      refine (lex_step p (reset x q) b q2 _ H3.out.1).mono ?_
      rintro e w5 ⟨rfl, l5, g5⟩
      have H5 := Lib.hid (And.intro l5 (gb_trans H3.out.2.1 g5))
      have hW := decAt_pos x.s q2 HLT.out
      clear l5 g5
      have hWe : (decAt (reset x q).s q2).2 = (decAt x.s q2).2 := rfl
      rw [hWe] at H5
      generalize (decAt x.s q2).2 = W at H5 hW
      clear hWe
      go_wp2_with fail
      go_roundg (x.s.size - (q2 + W))
      case measure => have := HLT.out; omega
      case rel => exact ⟨q2 + W, by omega, H5.out.1, Nat.le_refl _, H5.out.2⟩

set_option maxRecDepth 100000 in
set_option maxHeartbeats 8000000 in
theorem nx_ws9 (p : Nat) (x : Lx) (b q : Nat) (w : World) (h : Lex w p x b q) (hc : (decAt x.s q).1 = 9) (hs : Safe x.s) : Calls Tryd.prog 72 #[.pointer (some ⟨p, 0, none⟩)] w (Tok w p x b q) := by
  obtain ⟨c10, c33, c35, c36, c37⟩ := h.cells
  rw [hc] at c35
  obtain ⟨ln, hln⟩ : ∃ ln, q - x.st = ln := ⟨_, rfl⟩
  rw [hln] at c37
  have hst := h.hst
  have hq := h.hq
  have hsz := h.hsz
  have hp := h.lt
  have HE := Lib.hid (fun w => end_any x.st ln w (by omega))
  rw [show x.st + ln = q by omega] at HE
  have H := Lib.hid (And.intro h hc)
  clear h hc hln
  have HSF := Lib.hid hs
  clear hs
  go_enter Tryd.func72, Tryd.ntmps72
  go_wp2_with fail
  refine wp_loop_rounds 1 ?_
  rw [rounds_succ]
  go_wp2_with fail
  refine (HE.out _).mono ?_
  rintro e w1 ⟨rfl, b1⟩
  have l1 := H.out.1.kept b1
  have g1 : w.grownBy w1 (some p) := gb_of_below _ b1
  have H1 := Lib.hid (And.intro (tok_reset l1) (tok_gb g1 q))
  have f := l1.css.free
  have f36 := f 36
  have f37 := f 37
  have f38 := f 38
  have f39 := f 39
  have f40 := f 40
  have hp1 := l1.lt
  obtain ⟨e0, e10, e17, e18, e19, e20, e21, e32, e33, y35, e36, e37, e38, e39, e40⟩ := l1.css.cells
  have e35 : w1.cell? ⟨p, 35, none⟩ = some (.int .i32 9) := y35.trans (by rw [show (x.at b q).cp = 9 from H.out.2])
  clear f b1 l1 g1 y35 c10 c33 c35 c36 c37 e0 e10 e17 e18 e19 e20 e21 e32 e33
  go_wp2_with fail
  have hst2 := lex_step p (reset x q) b q _ H1.out.1
  rw [show (decAt (reset x q).s q).2 = 1 from (decAt_small x.s q H.out.2 (by omega) (by omega)).2.2] at hst2
  refine hst2.mono ?_
  rintro e w2 ⟨rfl, l2, g2⟩
  have f39 := l2.css.free 39
  obtain ⟨v39, k39⟩ := cell_any l2 39 (by omega)
  have H2 := Lib.hid (And.intro l2 (gb_trans H1.out.2 g2))
  clear hst2 l2 g2 e35 e36 e37 e38 e39 e40
  have hq1 : q + 1 ≤ x.s.size := (decAt_small x.s q H.out.2 (by omega) (by omega)).1
  clear f39 k39
  go_wp2_with fail
  go_loopg [] (x.s.size - (q + 1)) (fun k wr => WRel w p x b q k wr)
  case atStart => exact ⟨q + 1, by omega, H2.out.1, Nat.le_refl _, H2.out.2⟩
  case round =>
    obtain ⟨q2, hq2, l3, hk3, g3⟩ := hrel
    obtain ⟨z10, z33, zz35, z36, z37⟩ := l3.cells
    have hp3 := l3.lt
    have hq3 : q2 ≤ x.s.size := l3.hq
    obtain ⟨c2, hc2⟩ : ∃ c, (decAt x.s q2).1 = c := ⟨_, rfl⟩
    have z35 : wr.cell? ⟨p, 35, none⟩ = some (.int .i32 c2) := zz35.trans (by rw [show (decAt (reset x q).s q2).1 = c2 from hc2])
    have hne := (safe_cp HSF.out q2).1
    rw [hc2] at hne
    have f39 := l3.css.free 39
    obtain ⟨v39, k39⟩ := cell_any l3 39 (by omega)
    have H3 := Lib.hid (And.intro l3 (And.intro g3 hc2))
    have hws := ws_any c2 wr
    clear l3 g3 hc2 zz35 z10 z33 z36 z37
    cases hw : isWS c2
    · rw [hw] at hws
      have HWS := Lib.hid hws
      have t1 : (c2 == 47) = false := beq_eq_false_iff_ne.2 hne
      clear hw hws hne
      go_wp2_with fail
      refine HWS.out.mono ?_
      rintro e w4 ⟨rfl, rfl⟩
      go_wp2_with fail
      go_quiet (fail)
      go_wp2_with fail
      go_end0
      exact tok_done H3.out.1.drewN' (gb_drewN H3.out.2.1) 38 (tokP_plain hq2 hq3 (by decide) (by decide))
    · rw [hw] at hws
      have HWS := Lib.hid hws
      have HLT : Hid (q2 < x.s.size) := Lib.hid (by
        have : 0 ≤ c2 ∧ c2 < 128 := by simp only [isWS, decide_eq_true_eq] at hw; omega
        exact (decAt_small x.s q2 H3.out.2.2 this.1 this.2).1)
      clear hw hws hne
      go_wp2_with fail
      refine HWS.out.mono ?_
      rintro e w4 ⟨rfl, rfl⟩
      go_wp2_with fail
      refine (lex_step p (reset x q) b q2 _ H3.out.1).mono ?_
      rintro e w5 ⟨rfl, l5, g5⟩
      have H5 := Lib.hid (And.intro l5 (gb_trans H3.out.2.1 g5))
      have hW := decAt_pos x.s q2 HLT.out
      clear l5 g5
      have hWe : (decAt (reset x q).s q2).2 = (decAt x.s q2).2 := rfl
      rw [hWe] at H5
      generalize (decAt x.s q2).2 = W at H5 hW
      clear hWe
      go_wp2_with fail
      go_roundg (x.s.size - (q2 + W))
      case measure => have := HLT.out; omega
      case rel => exact ⟨q2 + W, by omega, H5.out.1, Nat.le_refl _, H5.out.2⟩

set_option maxRecDepth 100000 in
set_option maxHeartbeats 8000000 in
theorem nx_ws10 (p : Nat) (x : Lx) (b q : Nat) (w : World) (h : Lex w p x b q) (hc : (decAt x.s q).1 = 10) (hs : Safe x.s) : Calls Tryd.prog 72 #[.pointer (some ⟨p, 0, none⟩)] w (Tok w p x b q) := by
  obtain ⟨c10, c33, c35, c36, c37⟩ := h.cells
  rw [hc] at c35
  obtain ⟨ln, hln⟩ : ∃ ln, q - x.st = ln := ⟨_, rfl⟩
  rw [hln] at c37
  have hst := h.hst
  have hq := h.hq
  have hsz := h.hsz
  have hp := h.lt
  have HE := Lib.hid (fun w => end_any x.st ln w (by omega))
  rw [show x.st + ln = q by omega] at HE
  have H := Lib.hid (And.intro h hc)
  clear h hc hln
  have HSF := Lib.hid hs
  clear hs
  go_enter Tryd.func72, Tryd.ntmps72
  go_wp2_with fail
  refine wp_loop_rounds 1 ?_
  rw [rounds_succ]
  go_wp2_with fail
  refine (HE.out _).mono ?_
  rintro e w1 ⟨rfl, b1⟩
  have l1 := H.out.1.kept b1
  have g1 : w.grownBy w1 (some p) := gb_of_below _ b1
  have H1 := Lib.hid (And.intro (tok_reset l1) (tok_gb g1 q))
  have f := l1.css.free
  have f36 := f 36
  have f37 := f 37
  have f38 := f 38
  have f39 := f 39
  have f40 := f 40
  have hp1 := l1.lt
  obtain ⟨e0, e10, e17, e18, e19, e20, e21, e32, e33, y35, e36, e37, e38, e39, e40⟩ := l1.css.cells
  have e35 : w1.cell? ⟨p, 35, none⟩ = some (.int .i32 10) := y35.trans (by rw [show (x.at b q).cp = 10 from H.out.2])
  clear f b1 l1 g1 y35 c10 c33 c35 c36 c37 e0 e10 e17 e18 e19 e20 e21 e32 e33
  go_wp2_with fail
  have hst2 := lex_step p (reset x q) b q _ H1.out.1
  rw [show (decAt (reset x q).s q).2 = 1 from (decAt_small x.s q H.out.2 (by omega) (by omega)).2.2] at hst2
  refine hst2.mono ?_
  rintro e w2 ⟨rfl, l2, g2⟩
  have f39 := l2.css.free 39
  obtain ⟨v39, k39⟩ := cell_any l2 39 (by omega)
  have H2 := Lib.hid (And.intro l2 (gb_trans H1.out.2 g2))
  clear hst2 l2 g2 e35 e36 e37 e38 e39 e40
  have hq1 : q + 1 ≤ x.s.size := (decAt_small x.s q H.out.2 (by omega) (by omega)).1
  clear f39 k39
  go_wp2_with fail
  go_loopg [] (x.s.size - (q + 1)) (fun k wr => WRel w p x b q k wr)
  case atStart => exact ⟨q + 1, by omega, H2.out.1, Nat.le_refl _, H2.out.2⟩
  case round =>
    obtain ⟨q2, hq2, l3, hk3, g3⟩ := hrel
    obtain ⟨z10, z33, zz35, z36, z37⟩ := l3.cells
    have hp3 := l3.lt
    have hq3 : q2 ≤ x.s.size := l3.hq
    obtain ⟨c2, hc2⟩ : ∃ c, (decAt x.s q2).1 = c := ⟨_, rfl⟩
    have z35 : wr.cell? ⟨p, 35, none⟩ = some (.int .i32 c2) := zz35.trans (by rw [show (decAt (reset x q).s q2).1 = c2 from hc2])
    have hne := (safe_cp HSF.out q2).1
    rw [hc2] at hne
    have f39 := l3.css.free 39
    obtain ⟨v39, k39⟩ := cell_any l3 39 (by omega)
    have H3 := Lib.hid (And.intro l3 (And.intro g3 hc2))
    have hws := ws_any c2 wr
    clear l3 g3 hc2 zz35 z10 z33 z36 z37
    cases hw : isWS c2
    · rw [hw] at hws
      have HWS := Lib.hid hws
      have t1 : (c2 == 47) = false := beq_eq_false_iff_ne.2 hne
      clear hw hws hne
      go_wp2_with fail
      refine HWS.out.mono ?_
      rintro e w4 ⟨rfl, rfl⟩
      go_wp2_with fail
      go_quiet (fail)
      go_wp2_with fail
      go_end0
      exact tok_done H3.out.1.drewN' (gb_drewN H3.out.2.1) 38 (tokP_plain hq2 hq3 (by decide) (by decide))
    · rw [hw] at hws
      have HWS := Lib.hid hws
      have HLT : Hid (q2 < x.s.size) := Lib.hid (by
        have : 0 ≤ c2 ∧ c2 < 128 := by simp only [isWS, decide_eq_true_eq] at hw; omega
        exact (decAt_small x.s q2 H3.out.2.2 this.1 this.2).1)
      clear hw hws hne
      go_wp2_with fail
      refine HWS.out.mono ?_
      rintro e w4 ⟨rfl, rfl⟩
      go_wp2_with fail
      refine (lex_step p (reset x q) b q2 _ H3.out.1).mono ?_
      rintro e w5 ⟨rfl, l5, g5⟩
      have H5 := Lib.hid (And.intro l5 (gb_trans H3.out.2.1 g5))
      have hW := decAt_pos x.s q2 HLT.out
      clear l5 g5
      have hWe : (decAt (reset x q).s q2).2 = (decAt x.s q2).2 := rfl
      rw [hWe] at H5
      generalize (decAt x.s q2).2 = W at H5 hW
      clear hWe
      go_wp2_with fail
      go_roundg (x.s.size - (q2 + W))
      case measure => have := HLT.out; omega
      case rel => exact ⟨q2 + W, by omega, H5.out.1, Nat.le_refl _, H5.out.2⟩

set_option maxRecDepth 100000 in
set_option maxHeartbeats 8000000 in
theorem nx_ws13 (p : Nat) (x : Lx) (b q : Nat) (w : World) (h : Lex w p x b q) (hc : (decAt x.s q).1 = 13) (hs : Safe x.s) : Calls Tryd.prog 72 #[.pointer (some ⟨p, 0, none⟩)] w (Tok w p x b q) := by
  obtain ⟨c10, c33, c35, c36, c37⟩ := h.cells
  rw [hc] at c35
  obtain ⟨ln, hln⟩ : ∃ ln, q - x.st = ln := ⟨_, rfl⟩
  rw [hln] at c37
  have hst := h.hst
  have hq := h.hq
  have hsz := h.hsz
  have hp := h.lt
  have HE := Lib.hid (fun w => end_any x.st ln w (by omega))
  rw [show x.st + ln = q by omega] at HE
  have H := Lib.hid (And.intro h hc)
  clear h hc hln
  have HSF := Lib.hid hs
  clear hs
  go_enter Tryd.func72, Tryd.ntmps72
  go_wp2_with fail
  refine wp_loop_rounds 1 ?_
  rw [rounds_succ]
  go_wp2_with fail
  refine (HE.out _).mono ?_
  rintro e w1 ⟨rfl, b1⟩
  have l1 := H.out.1.kept b1
  have g1 : w.grownBy w1 (some p) := gb_of_below _ b1
  have H1 := Lib.hid (And.intro (tok_reset l1) (tok_gb g1 q))
  have f := l1.css.free
  have f36 := f 36
  have f37 := f 37
  have f38 := f 38
  have f39 := f 39
  have f40 := f 40
  have hp1 := l1.lt
  obtain ⟨e0, e10, e17, e18, e19, e20, e21, e32, e33, y35, e36, e37, e38, e39, e40⟩ := l1.css.cells
  have e35 : w1.cell? ⟨p, 35, none⟩ = some (.int .i32 13) := y35.trans (by rw [show (x.at b q).cp = 13 from H.out.2])
  clear f b1 l1 g1 y35 c10 c33 c35 c36 c37 e0 e10 e17 e18 e19 e20 e21 e32 e33
  go_wp2_with fail
  have hst2 := lex_step p (reset x q) b q _ H1.out.1
  rw [show (decAt (reset x q).s q).2 = 1 from (decAt_small x.s q H.out.2 (by omega) (by omega)).2.2] at hst2
  refine hst2.mono ?_
  rintro e w2 ⟨rfl, l2, g2⟩
  have f39 := l2.css.free 39
  obtain ⟨v39, k39⟩ := cell_any l2 39 (by omega)
  have H2 := Lib.hid (And.intro l2 (gb_trans H1.out.2 g2))
  clear hst2 l2 g2 e35 e36 e37 e38 e39 e40
  have hq1 : q + 1 ≤ x.s.size := (decAt_small x.s q H.out.2 (by omega) (by omega)).1
  clear f39 k39
  go_wp2_with fail
  go_loopg [] (x.s.size - (q + 1)) (fun k wr => WRel w p x b q k wr)
  case atStart => exact ⟨q + 1, by omega, H2.out.1, Nat.le_refl _, H2.out.2⟩
  case round =>
    obtain ⟨q2, hq2, l3, hk3, g3⟩ := hrel
    obtain ⟨z10, z33, zz35, z36, z37⟩ := l3.cells
    have hp3 := l3.lt
    have hq3 : q2 ≤ x.s.size := l3.hq
    obtain ⟨c2, hc2⟩ : ∃ c, (decAt x.s q2).1 = c := ⟨_, rfl⟩
    have z35 : wr.cell? ⟨p, 35, none⟩ = some (.int .i32 c2) := zz35.trans (by rw [show (decAt (reset x q).s q2).1 = c2 from hc2])
    have hne := (safe_cp HSF.out q2).1
    rw [hc2] at hne
    have f39 := l3.css.free 39
    obtain ⟨v39, k39⟩ := cell_any l3 39 (by omega)
    have H3 := Lib.hid (And.intro l3 (And.intro g3 hc2))
    have hws := ws_any c2 wr
    clear l3 g3 hc2 zz35 z10 z33 z36 z37
    cases hw : isWS c2
    · rw [hw] at hws
      have HWS := Lib.hid hws
      have t1 : (c2 == 47) = false := beq_eq_false_iff_ne.2 hne
      clear hw hws hne
      go_wp2_with fail
      refine HWS.out.mono ?_
      rintro e w4 ⟨rfl, rfl⟩
      go_wp2_with fail
      go_quiet (fail)
      go_wp2_with fail
      go_end0
      exact tok_done H3.out.1.drewN' (gb_drewN H3.out.2.1) 38 (tokP_plain hq2 hq3 (by decide) (by decide))
    · rw [hw] at hws
      have HWS := Lib.hid hws
      have HLT : Hid (q2 < x.s.size) := Lib.hid (by
        have : 0 ≤ c2 ∧ c2 < 128 := by simp only [isWS, decide_eq_true_eq] at hw; omega
        exact (decAt_small x.s q2 H3.out.2.2 this.1 this.2).1)
      clear hw hws hne
      go_wp2_with fail
      refine HWS.out.mono ?_
      rintro e w4 ⟨rfl, rfl⟩
      go_wp2_with fail
      refine (lex_step p (reset x q) b q2 _ H3.out.1).mono ?_
      rintro e w5 ⟨rfl, l5, g5⟩
      have H5 := Lib.hid (And.intro l5 (gb_trans H3.out.2.1 g5))
      have hW := decAt_pos x.s q2 HLT.out
      clear l5 g5
      have hWe : (decAt (reset x q).s q2).2 = (decAt x.s q2).2 := rfl
      rw [hWe] at H5
      generalize (decAt x.s q2).2 = W at H5 hW
      clear hWe
      go_wp2_with fail
      go_roundg (x.s.size - (q2 + W))
      case measure => have := HLT.out; omega
      case rel => exact ⟨q2 + W, by omega, H5.out.1, Nat.le_refl _, H5.out.2⟩

set_option maxRecDepth 100000 in
set_option maxHeartbeats 8000000 in
theorem nx_ws12 (p : Nat) (x : Lx) (b q : Nat) (w : World) (h : Lex w p x b q) (hc : (decAt x.s q).1 = 12) (hs : Safe x.s) : Calls Tryd.prog 72 #[.pointer (some ⟨p, 0, none⟩)] w (Tok w p x b q) := by
  obtain ⟨c10, c33, c35, c36, c37⟩ := h.cells
  rw [hc] at c35
  obtain ⟨ln, hln⟩ : ∃ ln, q - x.st = ln := ⟨_, rfl⟩
  rw [hln] at c37
  have hst := h.hst
  have hq := h.hq
  have hsz := h.hsz
  have hp := h.lt
  have HE := Lib.hid (fun w => end_any x.st ln w (by omega))
  rw [show x.st + ln = q by omega] at HE
  have H := Lib.hid (And.intro h hc)
  clear h hc hln
  have HSF := Lib.hid hs
  clear hs
  go_enter Tryd.func72, Tryd.ntmps72
  go_wp2_with fail
  refine wp_loop_rounds 1 ?_
  rw [rounds_succ]
  go_wp2_with fail
  refine (HE.out _).mono ?_
  rintro e w1 ⟨rfl, b1⟩
  have l1 := H.out.1.kept b1
  have g1 : w.grownBy w1 (some p) := gb_of_below _ b1
  have H1 := Lib.hid (And.intro (tok_reset l1) (tok_gb g1 q))
  have f := l1.css.free
  have f36 := f 36
  have f37 := f 37
  have f38 := f 38
  have f39 := f 39
  have f40 := f 40
  have hp1 := l1.lt
  obtain ⟨e0, e10, e17, e18, e19, e20, e21, e32, e33, y35, e36, e37, e38, e39, e40⟩ := l1.css.cells
  have e35 : w1.cell? ⟨p, 35, none⟩ = some (.int .i32 12) := y35.trans (by rw [show (x.at b q).cp = 12 from H.out.2])
  clear f b1 l1 g1 y35 c10 c33 c35 c36 c37 e0 e10 e17 e18 e19 e20 e21 e32 e33
  go_wp2_with fail
  have hst2 := lex_step p (reset x q) b q _ H1.out.1
  rw [show (decAt (reset x q).s q).2 = 1 from (decAt_small x.s q H.out.2 (by omega) (by omega)).2.2] at hst2
  refine hst2.mono ?_
  rintro e w2 ⟨rfl, l2, g2⟩
  have f39 := l2.css.free 39
  obtain ⟨v39, k39⟩ := cell_any l2 39 (by omega)
  have H2 := Lib.hid (And.intro l2 (gb_trans H1.out.2 g2))
  clear hst2 l2 g2 e35 e36 e37 e38 e39 e40
  have hq1 : q + 1 ≤ x.s.size := (decAt_small x.s q H.out.2 (by omega) (by omega)).1
  clear f39 k39
  go_wp2_with fail
  go_loopg [] (x.s.size - (q + 1)) (fun k wr => WRel w p x b q k wr)
  case atStart => exact ⟨q + 1, by omega, H2.out.1, Nat.le_refl _, H2.out.2⟩
  case round =>
    obtain ⟨q2, hq2, l3, hk3, g3⟩ := hrel
    obtain ⟨z10, z33, zz35, z36, z37⟩ := l3.cells
    have hp3 := l3.lt
    have hq3 : q2 ≤ x.s.size := l3.hq
    obtain ⟨c2, hc2⟩ : ∃ c, (decAt x.s q2).1 = c := ⟨_, rfl⟩
    have z35 : wr.cell? ⟨p, 35, none⟩ = some (.int .i32 c2) := zz35.trans (by rw [show (decAt (reset x q).s q2).1 = c2 from hc2])
    have hne := (safe_cp HSF.out q2).1
    rw [hc2] at hne
    have f39 := l3.css.free 39
    obtain ⟨v39, k39⟩ := cell_any l3 39 (by omega)
    have H3 := Lib.hid (And.intro l3 (And.intro g3 hc2))
    have hws := ws_any c2 wr
    clear l3 g3 hc2 zz35 z10 z33 z36 z37
    cases hw : isWS c2
    · rw [hw] at hws
      have HWS := Lib.hid hws
      have t1 : (c2 == 47) = false := beq_eq_false_iff_ne.2 hne
      clear hw hws hne
      go_wp2_with fail
      refine HWS.out.mono ?_
      rintro e w4 ⟨rfl, rfl⟩
      go_wp2_with fail
      go_quiet (fail)
      go_wp2_with fail
      go_end0
      exact tok_done H3.out.1.drewN' (gb_drewN H3.out.2.1) 38 (tokP_plain hq2 hq3 (by decide) (by decide))
    · rw [hw] at hws
      have HWS := Lib.hid hws
      have HLT : Hid (q2 < x.s.size) := Lib.hid (by
        have : 0 ≤ c2 ∧ c2 < 128 := by simp only [isWS, decide_eq_true_eq] at hw; omega
        exact (decAt_small x.s q2 H3.out.2.2 this.1 this.2).1)
      clear hw hws hne
      go_wp2_with fail
      refine HWS.out.mono ?_
      rintro e w4 ⟨rfl, rfl⟩
      go_wp2_with fail
      refine (lex_step p (reset x q) b q2 _ H3.out.1).mono ?_
      rintro e w5 ⟨rfl, l5, g5⟩
      have H5 := Lib.hid (And.intro l5 (gb_trans H3.out.2.1 g5))
      have hW := decAt_pos x.s q2 HLT.out
      clear l5 g5
      have hWe : (decAt (reset x q).s q2).2 = (decAt x.s q2).2 := rfl
      rw [hWe] at H5
      generalize (decAt x.s q2).2 = W at H5 hW
      clear hWe
      go_wp2_with fail
      go_roundg (x.s.size - (q2 + W))
      case measure => have := HLT.out; omega
      case rel => exact ⟨q2 + W, by omega, H5.out.1, Nat.le_refl _, H5.out.2⟩

set_option maxRecDepth 100000 in
set_option maxHeartbeats 8000000 in
theorem nx_at (p : Nat) (x : Lx) (b q : Nat) (w : World) (h : Lex w p x b q) (hc : (decAt x.s q).1 = 64) : Calls Tryd.prog 72 #[.pointer (some ⟨p, 0, none⟩)] w (Tok w p x b q) := by
  obtain ⟨c10, c33, c35, c36, c37⟩ := h.cells
  rw [hc] at c35
  obtain ⟨ln, hln⟩ : ∃ ln, q - x.st = ln := ⟨_, rfl⟩
  rw [hln] at c37
  have hst := h.hst
  have hq := h.hq
  have hsz := h.hsz
  have hp := h.lt
  have HE := Lib.hid (fun w => end_any x.st ln w (by omega))
  rw [show x.st + ln = q by omega] at HE
  have H := Lib.hid (And.intro h hc)
  clear h hc hln
  go_enter Tryd.func72, Tryd.ntmps72
  go_wp2_with fail
  refine wp_loop_rounds 1 ?_
  rw [rounds_succ]
  go_wp2_with fail
  refine (HE.out _).mono ?_
  rintro e w1 ⟨rfl, b1⟩
  have l1 := H.out.1.kept b1
  have g1 : w.grownBy w1 (some p) := gb_of_below _ b1
  have H1 := Lib.hid (And.intro (tok_reset l1) (tok_gb g1 q))
  have f := l1.css.free
  have f36 := f 36
  have f37 := f 37
  have f38 := f 38
  have f39 := f 39
  have f40 := f 40
  have hp1 := l1.lt
  obtain ⟨e0, e10, e17, e18, e19, e20, e21, e32, e33, y35, e36, e37, e38, e39, e40⟩ := l1.css.cells
  have e35 : w1.cell? ⟨p, 35, none⟩ = some (.int .i32 64) := y35.trans (by rw [show (x.at b q).cp = 64 from H.out.2])
  clear f b1 l1 g1 y35 c10 c33 c35 c36 c37 e0 e10 e17 e18 e19 e20 e21 e32 e33
  go_wp2_with fail
  have hst2 := lex_step p (reset x q) b q _ H1.out.1
  rw [show (decAt (reset x q).s q).2 = 1 from (decAt_small x.s q H.out.2 (by omega) (by omega)).2.2] at hst2
  refine hst2.mono ?_
  rintro e w2 ⟨rfl, l2, g2⟩
  have f39 := l2.css.free 39
  obtain ⟨v39, k39⟩ := cell_any l2 39 (by omega)
  have H2 := Lib.hid (And.intro l2 (gb_trans H1.out.2 g2))
  clear hst2 l2 g2 e35 e36 e37 e38 e39 e40
  have hq1 : q + 1 ≤ x.s.size := (decAt_small x.s q H.out.2 (by omega) (by omega)).1
  clear f39 k39
  go_wp2_with fail
  have hwi := wsi_any p (reset x q) b (q + 1) _ H2.out.1
  cases hwv : wsi (reset x q).s (q + 1)
  · rw [hwv] at hwi
    refine hwi.mono ?_
    rintro e w3 ⟨rfl, b3⟩
    have l3 := H2.out.1.kept b3
    have f39 := l3.css.free 39
    obtain ⟨v39, k39⟩ := cell_any l3 39 (by omega)
    have H3 := Lib.hid (And.intro l3 (gb_trans H2.out.2 (gb_of_below _ b3)))
    clear hwi hwv b3 l3
    go_wp2_with fail
    go_end0
    exact tok_done H3.out.1 H3.out.2 11 (tokP_plain (by omega) hq1 (by decide) (by decide))
  · rw [hwv] at hwi
    refine hwi.mono ?_
    rintro e w3 ⟨rfl, b3⟩
    have H3 := Lib.hid (And.intro (H2.out.1.kept b3) (gb_trans H2.out.2 (gb_of_below _ b3)))
    clear hwi hwv b3
    go_wp2_with fail
    refine (name_any p (reset x q) b (q + 1) _ H3.out.1).mono ?_
    rintro e w4 ⟨v4, q4, rfl, hn4, l4, g4⟩
    have f39 := l4.css.free 39
    obtain ⟨v39, k39⟩ := cell_any l4 39 (by omega)
    have H4 := Lib.hid (And.intro l4 (And.intro (gb_trans H3.out.2 g4) hn4))
    clear l4 g4 hn4
    go_wp2_with fail
    go_end0
    exact tok_done H4.out.1 H4.out.2.1 1 (tokP_plain (by have := H4.out.2.2.1; omega) H4.out.2.2.2.1 (by decide) (by decide))

set_option maxRecDepth 100000 in
set_option maxHeartbeats 8000000 in
theorem nx_hash (p : Nat) (x : Lx) (b q : Nat) (w : World) (h : Lex w p x b q) (hc : (decAt x.s q).1 = 35) (hs : Safe x.s) : Calls Tryd.prog 72 #[.pointer (some ⟨p, 0, none⟩)] w (Tok w p x b q) := by
  obtain ⟨c10, c33, c35, c36, c37⟩ := h.cells
  rw [hc] at c35
  obtain ⟨ln, hln⟩ : ∃ ln, q - x.st = ln := ⟨_, rfl⟩
  rw [hln] at c37
  have hst := h.hst
  have hq := h.hq
  have hsz := h.hsz
  have hp := h.lt
  have HE := Lib.hid (fun w => end_any x.st ln w (by omega))
  rw [show x.st + ln = q by omega] at HE
  have H := Lib.hid (And.intro h hc)
  clear h hc hln
  have HSF := Lib.hid hs
  clear hs
  go_enter Tryd.func72, Tryd.ntmps72
  go_wp2_with fail
  refine wp_loop_rounds 1 ?_
  rw [rounds_succ]
  go_wp2_with fail
  refine (HE.out _).mono ?_
  rintro e w1 ⟨rfl, b1⟩
  have l1 := H.out.1.kept b1
  have g1 : w.grownBy w1 (some p) := gb_of_below _ b1
  have H1 := Lib.hid (And.intro (tok_reset l1) (tok_gb g1 q))
  have f := l1.css.free
  have f36 := f 36
  have f37 := f 37
  have f38 := f 38
  have f39 := f 39
  have f40 := f 40
  have hp1 := l1.lt
  obtain ⟨e0, e10, e17, e18, e19, e20, e21, e32, e33, y35, e36, e37, e38, e39, e40⟩ := l1.css.cells
  have e35 : w1.cell? ⟨p, 35, none⟩ = some (.int .i32 35) := y35.trans (by rw [show (x.at b q).cp = 35 from H.out.2])
  clear f b1 l1 g1 y35 c10 c33 c35 c36 c37 e0 e10 e17 e18 e19 e20 e21 e32 e33
  go_wp2_with fail
  have hst2 := lex_step p (reset x q) b q _ H1.out.1
  rw [show (decAt (reset x q).s q).2 = 1 from (decAt_small x.s q H.out.2 (by omega) (by omega)).2.2] at hst2
  refine hst2.mono ?_
  rintro e w2 ⟨rfl, l2, g2⟩
  have f39 := l2.css.free 39
  obtain ⟨v39, k39⟩ := cell_any l2 39 (by omega)
  have H2 := Lib.hid (And.intro l2 (gb_trans H1.out.2 g2))
  clear hst2 l2 g2 e35 e36 e37 e38 e39 e40
  have hq1 : q + 1 ≤ x.s.size := (decAt_small x.s q H.out.2 (by omega) (by omega)).1
  obtain ⟨z10, z33, zz35, z36, z37⟩ := H2.out.1.cells
  have hp3 := H2.out.1.lt
  obtain ⟨c2, hc2⟩ : ∃ c, (decAt x.s (q + 1)).1 = c := ⟨_, rfl⟩
  have z35 : w2.cell? ⟨p, 35, none⟩ = some (.int .i32 c2) := zz35.trans (by rw [show (decAt (reset x q).s (q + 1)).1 = c2 from hc2])
  have HC2 := Lib.hid hc2
  have hnc := nc_any c2 w2
  have hve := vesc_any p (reset x q) b (q + 1) w2 H2.out.1
  rw [show vEsc (reset x q).s (q + 1) = false from safe_esc HSF.out _] at hve
  clear hc2 zz35 z10 z33 z36 z37
  go_wp2_with fail
  cases hnv : nameCont c2
  · rw [hnv] at hnc
    refine hnc.mono ?_
    rintro e w3 ⟨rfl, rfl⟩
    clear hnv hnc
    go_wp2_with fail
    refine hve.mono ?_
    rintro e w4 ⟨rfl, b4⟩
    have l4 := H2.out.1.kept b4
    have f39 := l4.css.free 39
    obtain ⟨v39, k39⟩ := cell_any l4 39 (by omega)
    have H4 := Lib.hid (And.intro l4 (gb_trans H2.out.2 (gb_of_below _ b4)))
    clear hve b4 l4
    go_wp2_with fail
    go_end0
    exact tok_done H4.out.1 H4.out.2 11 (tokP_plain (by omega) hq1 (by decide) (by decide))
  · rw [hnv] at hnc
    refine hnc.mono ?_
    rintro e w3 ⟨rfl, rfl⟩
    clear hnv hnc hve
    go_wp2_with fail
    have l4 := lex_kd H2.out.1 28
    have g4 := gb_set H2.out.2 39 none (.int .u8 28)
    have hwi := wsi_any p _ b (q + 1) _ l4
    have H4 := Lib.hid (And.intro l4 g4)
    clear l4 g4
    generalize wsi _ (q + 1) = wv at hwi
    refine hwi.mono ?_
    rintro e w5 ⟨rfl, b5⟩
    have l5 := H4.out.1.kept b5
    have H5 := Lib.hid (And.intro l5 (gb_trans H4.out.2 (gb_of_below _ b5)))
    have f40 := l5.css.free 40
    obtain ⟨e0, e10, e17, e18, e19, e20, e21, e32, e33, y35, y36, y37, y38, y39, y40⟩ := l5.css.cells
    have k40 : w5.cell? ⟨p, 40, none⟩ = some (.int .u8 0) := y40
    have hp5 := l5.lt
    clear hwi b5 l5 e0 e10 e17 e18 e19 e20 e21 e32 e33 y35 y36 y37 y38 y39 y40 f39 k39 z35
    cases wv
    · go_wp2_with fail
      refine (name_any p _ b (q + 1) _ H5.out.1).mono ?_
      rintro e w6 ⟨v6, q6, rfl, hn6, l6, g6⟩
      have H6 := Lib.hid (And.intro l6 (And.intro (gb_trans H5.out.2 g6) hn6))
      clear l6 g6 hn6
      go_wp2_with fail
      go_end0
      exact tok_end H6.out.1 H6.out.2.1 (tokP_plain (by have := H6.out.2.2.1; omega) H6.out.2.2.2.1 (show okKd 28 = true from rfl) (show numKd 28 = false from rfl))
    · go_wp2_with fail
      have l7 := lex_fl H5.out.1 1
      have g7 := gb_set H5.out.2 40 none (.int .u8 1)
      have H7 := Lib.hid (And.intro l7 g7)
      clear l7 g7
      refine (name_any p _ b (q + 1) _ H7.out.1).mono ?_
      rintro e w6 ⟨v6, q6, rfl, hn6, l6, g6⟩
      have H6 := Lib.hid (And.intro l6 (And.intro (gb_trans H7.out.2 g6) hn6))
      clear l6 g6 hn6
      go_wp2_with fail
      go_end0
      exact tok_end H6.out.1 H6.out.2.1 (tokP_plain (by have := H6.out.2.2.1; omega) H6.out.2.2.2.1 (show okKd 28 = true from rfl) (show numKd 28 = false from rfl))

set_option maxRecDepth 100000 in
set_option maxHeartbeats 8000000 in
theorem nx_lt (p : Nat) (x : Lx) (b q : Nat) (w : World) (h : Lex w p x b q) (hc : (decAt x.s q).1 = 60) : Calls Tryd.prog 72 #[.pointer (some ⟨p, 0, none⟩)] w (Tok w p x b q) := by
  obtain ⟨c10, c33, c35, c36, c37⟩ := h.cells
  rw [hc] at c35
  obtain ⟨ln, hln⟩ : ∃ ln, q - x.st = ln := ⟨_, rfl⟩
  rw [hln] at c37
  have hst := h.hst
  have hq := h.hq
  have hsz := h.hsz
  have hp := h.lt
  have HE := Lib.hid (fun w => end_any x.st ln w (by omega))
  rw [show x.st + ln = q by omega] at HE
  have H := Lib.hid (And.intro h hc)
  clear h hc hln
  go_enter Tryd.func72, Tryd.ntmps72
  go_wp2_with fail
  refine wp_loop_rounds 1 ?_
  rw [rounds_succ]
  go_wp2_with fail
  refine (HE.out _).mono ?_
  rintro e w1 ⟨rfl, b1⟩
  have l1 := H.out.1.kept b1
  have g1 : w.grownBy w1 (some p) := gb_of_below _ b1
  have H1 := Lib.hid (And.intro (tok_reset l1) (tok_gb g1 q))
  have f := l1.css.free
  have f36 := f 36
  have f37 := f 37
  have f38 := f 38
  have f39 := f 39
  have f40 := f 40
  have hp1 := l1.lt
  obtain ⟨e0, e10, e17, e18, e19, e20, e21, e32, e33, y35, e36, e37, e38, e39, e40⟩ := l1.css.cells
  have e35 : w1.cell? ⟨p, 35, none⟩ = some (.int .i32 60) := y35.trans (by rw [show (x.at b q).cp = 60 from H.out.2])
  have hW := (decAt_small x.s q H.out.2 (by omega) (by omega)).2.2
  have hqs := (decAt_small x.s q H.out.2 (by omega) (by omega)).1
  have z10 : w1.cell? ⟨p, 10, none⟩ = some (.string x.s) := e10
  obtain ⟨n, hn⟩ : ∃ n, q + 1 = n := ⟨_, rfl⟩
  have z33 : w1.cell? ⟨p, 33, none⟩ = some (.int .i64 (n : Nat)) := e33.trans (by rw [show (x.at b q).cur = n from by show q + (decAt x.s q).2 = n; rw [hW]; exact hn])
  have HW := Lib.hid (And.intro hW hn)
  have hns : n ≤ x.s.size := by omega
  clear hW hn
  clear f b1 l1 g1 y35 c10 c33 c35 c36 c37 e0 e10 e17 e18 e19 e20 e21 e32 e33
  have i1 : IntKind.i64.wrap ((n : Int) + 3) = (n : Int) + 3 := IntWalk.i64_in _ (by omega)
  have j1 : (0 : Int) ≤ (n : Int) + 3 := by omega
  have k1 : ((n : Int) + 3).toNat = n + 3 := by omega
  by_cases l3 : n + 3 ≤ x.s.size
  · have d1 : decide ((n : Int) + 3 ≤ (x.s.size : Int)) = true := decide_eq_true (by omega)
    cases hv : ((x.s.extract n (n + 3)).toList == [33, 45, 45])
    · go_wp2_with fail
      go_quiet (fail)
      go_wp2_with fail
      have hs1 := lex_step p (reset x q) b (q) _ (H1.out.1.drewN nq)
      rw [show (decAt (reset x q).s (q)).2 = 1 from HW.out.1] at hs1
      refine hs1.mono ?_
      rintro e w10 ⟨rfl, m1, g1⟩
      have M1 := Lib.hid (And.intro m1 (gb_trans (gb_drewN (m := nq) H1.out.2) g1))
      clear hs1 m1 g1
      have f39z := M1.out.1.css.free 39
      obtain ⟨v39, k39⟩ := cell_any M1.out.1 39 (by omega)
      clear f39 e35 e36 e37 e38 e39 e40
      go_wp2_with fail
      go_end0
      exact tok_done M1.out.1 M1.out.2 21 (tokP_plain (by omega) (by omega) (by decide) (by decide))
    · have HX := Lib.hid (ext3 l3 hv)
      go_wp2_with fail
      go_quiet (fail)
      go_wp2_with fail
      have hs1 := lex_step p (reset x q) b (q) _ (H1.out.1.drewN nq)
      rw [show (decAt (reset x q).s (q)).2 = 1 from HW.out.1] at hs1
      refine hs1.mono ?_
      rintro e w10 ⟨rfl, m1, g1⟩
      have M1 := Lib.hid (And.intro m1 (gb_trans (gb_drewN (m := nq) H1.out.2) g1))
      clear hs1 m1 g1
      go_wp2_with fail
      have hs2 := lex_step p (reset x q) b (q + 1) _ M1.out.1
      rw [show (decAt (reset x q).s (q + 1)).2 = 1 from (show (decAt x.s (q + 1)).2 = 1 by rw [HW.out.2]; have hx := HX.out.1; exact (cp_of (by omega) (by show byteAt x.s _ < 128; omega)).2)] at hs2
      refine hs2.mono ?_
      rintro e w20 ⟨rfl, m2, g2⟩
      have M2 := Lib.hid (And.intro m2 (gb_trans M1.out.2 g2))
      clear hs2 m2 g2
      go_wp2_with fail
      have hs3 := lex_step p (reset x q) b (q + 1 + 1) _ M2.out.1
      rw [show (decAt (reset x q).s (q + 1 + 1)).2 = 1 from (show (decAt x.s (q + 1 + 1)).2 = 1 by rw [HW.out.2]; have hx := HX.out.2.1; exact (cp_of (by omega) (by show byteAt x.s _ < 128; omega)).2)] at hs3
      refine hs3.mono ?_
      rintro e w30 ⟨rfl, m3, g3⟩
      have M3 := Lib.hid (And.intro m3 (gb_trans M2.out.2 g3))
      clear hs3 m3 g3
      go_wp2_with fail
      have hs4 := lex_step p (reset x q) b (q + 1 + 1 + 1) _ M3.out.1
      rw [show (decAt (reset x q).s (q + 1 + 1 + 1)).2 = 1 from (show (decAt x.s (q + 1 + 1 + 1)).2 = 1 by rw [HW.out.2]; have hx := HX.out.2.2; exact (cp_of (by omega) (by show byteAt x.s (n + 2) < 128; omega)).2)] at hs4
      refine hs4.mono ?_
      rintro e w40 ⟨rfl, m4, g4⟩
      have M4 := Lib.hid (And.intro m4 (gb_trans M3.out.2 g4))
      clear hs4 m4 g4
      have f39z := M4.out.1.css.free 39
      obtain ⟨v39, k39⟩ := cell_any M4.out.1 39 (by omega)
      clear f39 e35 e36 e37 e38 e39 e40
      go_wp2_with fail
      go_end0
      exact tok_done M4.out.1 M4.out.2 5 (tokP_plain (by omega) (by have := HW.out.2; omega) (by decide) (by decide))
  · have d1 : decide ((n : Int) + 3 ≤ (x.s.size : Int)) = false := decide_eq_false (by omega)
    go_wp2_with fail
    go_quiet (fail)
    go_wp2_with fail
    have hs1 := lex_step p (reset x q) b (q) _ (H1.out.1.drewN nq)
    rw [show (decAt (reset x q).s (q)).2 = 1 from HW.out.1] at hs1
    refine hs1.mono ?_
    rintro e w10 ⟨rfl, m1, g1⟩
    have M1 := Lib.hid (And.intro m1 (gb_trans (gb_drewN (m := nq) H1.out.2) g1))
    clear hs1 m1 g1
    have f39z := M1.out.1.css.free 39
    obtain ⟨v39, k39⟩ := cell_any M1.out.1 39 (by omega)
    clear f39 e35 e36 e37 e38 e39 e40
    go_wp2_with fail
    go_end0
    exact tok_done M1.out.1 M1.out.2 21 (tokP_plain (by omega) (by omega) (by decide) (by decide))

set_option maxRecDepth 100000 in
set_option maxHeartbeats 8000000 in
theorem nx_minus (p : Nat) (x : Lx) (b q : Nat) (w : World) (h : Lex w p x b q) (hc : (decAt x.s q).1 = 45) (hs : Safe x.s) : Calls Tryd.prog 72 #[.pointer (some ⟨p, 0, none⟩)] w (Tok w p x b q) := by
  obtain ⟨c10, c33, c35, c36, c37⟩ := h.cells
  rw [hc] at c35
  obtain ⟨ln, hln⟩ : ∃ ln, q - x.st = ln := ⟨_, rfl⟩
  rw [hln] at c37
  have hst := h.hst
  have hq := h.hq
  have hsz := h.hsz
  have hp := h.lt
  have HE := Lib.hid (fun w => end_any x.st ln w (by omega))
  rw [show x.st + ln = q by omega] at HE
  have H := Lib.hid (And.intro h hc)
  clear h hc hln
  have HSF := Lib.hid hs
  clear hs
  go_enter Tryd.func72, Tryd.ntmps72
  go_wp2_with fail
  refine wp_loop_rounds 1 ?_
  rw [rounds_succ]
  go_wp2_with fail
  refine (HE.out _).mono ?_
  rintro e w1 ⟨rfl, b1⟩
  have l1 := H.out.1.kept b1
  have g1 : w.grownBy w1 (some p) := gb_of_below _ b1
  have H1 := Lib.hid (And.intro (tok_reset l1) (tok_gb g1 q))
  have f := l1.css.free
  have f36 := f 36
  have f37 := f 37
  have f38 := f 38
  have f39 := f 39
  have f40 := f 40
  have hp1 := l1.lt
  obtain ⟨e0, e10, e17, e18, e19, e20, e21, e32, e33, y35, e36, e37, e38, e39, e40⟩ := l1.css.cells
  have e35 : w1.cell? ⟨p, 35, none⟩ = some (.int .i32 45) := y35.trans (by rw [show (x.at b q).cp = 45 from H.out.2])
  have hW := (decAt_small x.s q H.out.2 (by omega) (by omega)).2.2
  have hqs := (decAt_small x.s q H.out.2 (by omega) (by omega)).1
  have z10 : w1.cell? ⟨p, 10, none⟩ = some (.string x.s) := e10
  obtain ⟨n, hn⟩ : ∃ n, q + 1 = n := ⟨_, rfl⟩
  have z33 : w1.cell? ⟨p, 33, none⟩ = some (.int .i64 (n : Nat)) := e33.trans (by rw [show (x.at b q).cur = n from by show q + (decAt x.s q).2 = n; rw [hW]; exact hn])
  have HW := Lib.hid (And.intro hW hn)
  have hns : n ≤ x.s.size := by omega
  clear hW hn
  clear f b1 l1 g1 y35 c10 c33 c35 c36 c37 e0 e10 e17 e18 e19 e20 e21 e32 e33
  have i1 : IntKind.i64.wrap ((n : Int) + 2) = (n : Int) + 2 := IntWalk.i64_in _ (by omega)
  have j1 : (0 : Int) ≤ (n : Int) + 2 := by omega
  have k1 : ((n : Int) + 2).toNat = n + 2 := by omega
  go_wp2_with fail
  refine (wsn_sign p (reset x q) b q _ H1.out.1 (.inr H.out.2)).mono ?_
  rintro e w3 ⟨v, rfl, hv, rfl⟩
  cases v
  · clear hv
    by_cases l3 : n + 2 ≤ x.s.size
    · have d1 : decide ((n : Int) + 2 ≤ (x.s.size : Int)) = true := decide_eq_true (by omega)
      cases hv : ((x.s.extract n (n + 2)).toList == [45, 62])
      · go_wp2_with fail
        go_quiet (fail)
        go_wp2_with fail
        have hwi := wsi_any p (reset x q) b q _ (H1.out.1.drewN nq)
        cases hwv : wsi (reset x q).s q
        · rw [hwv] at hwi
          refine hwi.mono ?_
          rintro e w3 ⟨rfl, b3⟩
          have l3 := (H1.out.1.drewN nq).kept b3
          have H3 := Lib.hid (And.intro l3 (gb_trans (gb_drewN (m := nq) H1.out.2) (gb_of_below _ b3)))
          clear hwi hwv b3 l3
          go_wp2_with fail
          have hs1 := lex_step p (reset x q) b (q) _ H3.out.1
          rw [show (decAt (reset x q).s (q)).2 = 1 from HW.out.1] at hs1
          refine hs1.mono ?_
          rintro e w10 ⟨rfl, m1, g1⟩
          have M1 := Lib.hid (And.intro m1 (gb_trans H3.out.2 g1))
          clear hs1 m1 g1
          have f39z := M1.out.1.css.free 39
          obtain ⟨v39, k39⟩ := cell_any M1.out.1 39 (by omega)
          clear f39 e35 e36 e37 e38 e39 e40
          go_wp2_with fail
          go_end0
          exact tok_done M1.out.1 M1.out.2 22 (tokP_plain (by omega) (by omega) (by decide) (by decide))
        · rw [hwv] at hwi
          refine hwi.mono ?_
          rintro e w3 ⟨rfl, b3⟩
          have H3 := Lib.hid (And.intro ((H1.out.1.drewN nq).kept b3) (gb_trans (gb_drewN (m := nq) H1.out.2) (gb_of_below _ b3)))
          clear hwi hwv b3
          go_wp2_with fail
          refine (id_any p (reset x q) b q _ H3.out.1 HSF.out).mono ?_
          rintro e w2 ⟨q', rfl, hq1, hq2, hq3, l2, g2⟩
          have f39z := l2.css.free 39
          obtain ⟨v39, k39⟩ := cell_any l2 39 (by omega)
          have H2 := Lib.hid (And.intro l2 (And.intro (gb_trans H3.out.2 g2) (And.intro hq2 (hq3 (by show nameCont (decAt x.s q).1 = true; rw [H.out.2]; rfl)))))
          clear hq1 hq2 hq3 l2 g2 f39 e35 e36 e37 e38 e39 e40
          go_wp2_with fail
          go_end0
          exact tok_done H2.out.1 H2.out.2.1 29 (tokP_plain H2.out.2.2.2 H2.out.2.2.1 (by decide) (by decide))
      · have HX := Lib.hid (ext2 l3 hv)
        go_wp2_with fail
        go_quiet (fail)
        go_wp2_with fail
        have hs1 := lex_step p (reset x q) b (q) _ (H1.out.1.drewN nq)
        rw [show (decAt (reset x q).s (q)).2 = 1 from HW.out.1] at hs1
        refine hs1.mono ?_
        rintro e w10 ⟨rfl, m1, g1⟩
        have M1 := Lib.hid (And.intro m1 (gb_trans (gb_drewN (m := nq) H1.out.2) g1))
        clear hs1 m1 g1
        go_wp2_with fail
        have hs2 := lex_step p (reset x q) b (q + 1) _ M1.out.1
        rw [show (decAt (reset x q).s (q + 1)).2 = 1 from (show (decAt x.s (q + 1)).2 = 1 by rw [HW.out.2]; have hx := HX.out.1; exact (cp_of (by omega) (by show byteAt x.s _ < 128; omega)).2)] at hs2
        refine hs2.mono ?_
        rintro e w20 ⟨rfl, m2, g2⟩
        have M2 := Lib.hid (And.intro m2 (gb_trans M1.out.2 g2))
        clear hs2 m2 g2
        go_wp2_with fail
        have hs3 := lex_step p (reset x q) b (q + 1 + 1) _ M2.out.1
        rw [show (decAt (reset x q).s (q + 1 + 1)).2 = 1 from (show (decAt x.s (q + 1 + 1)).2 = 1 by rw [HW.out.2]; have hx := HX.out.2; exact (cp_of (by omega) (by show byteAt x.s _ < 128; omega)).2)] at hs3
        refine hs3.mono ?_
        rintro e w30 ⟨rfl, m3, g3⟩
        have M3 := Lib.hid (And.intro m3 (gb_trans M2.out.2 g3))
        clear hs3 m3 g3
        have f39z := M3.out.1.css.free 39
        obtain ⟨v39, k39⟩ := cell_any M3.out.1 39 (by omega)
        clear f39 e35 e36 e37 e38 e39 e40
        go_wp2_with fail
        go_end0
        exact tok_done M3.out.1 M3.out.2 4 (tokP_plain (by omega) (by have := HW.out.2; omega) (by decide) (by decide))
    · have d1 : decide ((n : Int) + 2 ≤ (x.s.size : Int)) = false := decide_eq_false (by omega)
      go_wp2_with fail
      go_quiet (fail)
      go_wp2_with fail
      have hwi := wsi_any p (reset x q) b q _ (H1.out.1.drewN nq)
      cases hwv : wsi (reset x q).s q
      · rw [hwv] at hwi
        refine hwi.mono ?_
        rintro e w3 ⟨rfl, b3⟩
        have l3 := (H1.out.1.drewN nq).kept b3
        have H3 := Lib.hid (And.intro l3 (gb_trans (gb_drewN (m := nq) H1.out.2) (gb_of_below _ b3)))
        clear hwi hwv b3 l3
        go_wp2_with fail
        have hs1 := lex_step p (reset x q) b (q) _ H3.out.1
        rw [show (decAt (reset x q).s (q)).2 = 1 from HW.out.1] at hs1
        refine hs1.mono ?_
        rintro e w10 ⟨rfl, m1, g1⟩
        have M1 := Lib.hid (And.intro m1 (gb_trans H3.out.2 g1))
        clear hs1 m1 g1
        have f39z := M1.out.1.css.free 39
        obtain ⟨v39, k39⟩ := cell_any M1.out.1 39 (by omega)
        clear f39 e35 e36 e37 e38 e39 e40
        go_wp2_with fail
        go_end0
        exact tok_done M1.out.1 M1.out.2 22 (tokP_plain (by omega) (by omega) (by decide) (by decide))
      · rw [hwv] at hwi
        refine hwi.mono ?_
        rintro e w3 ⟨rfl, b3⟩
        have H3 := Lib.hid (And.intro ((H1.out.1.drewN nq).kept b3) (gb_trans (gb_drewN (m := nq) H1.out.2) (gb_of_below _ b3)))
        clear hwi hwv b3
        go_wp2_with fail
        refine (id_any p (reset x q) b q _ H3.out.1 HSF.out).mono ?_
        rintro e w2 ⟨q', rfl, hq1, hq2, hq3, l2, g2⟩
        have f39z := l2.css.free 39
        obtain ⟨v39, k39⟩ := cell_any l2 39 (by omega)
        have H2 := Lib.hid (And.intro l2 (And.intro (gb_trans H3.out.2 g2) (And.intro hq2 (hq3 (by show nameCont (decAt x.s q).1 = true; rw [H.out.2]; rfl)))))
        clear hq1 hq2 hq3 l2 g2 f39 e35 e36 e37 e38 e39 e40
        go_wp2_with fail
        go_end0
        exact tok_done H2.out.1 H2.out.2.1 29 (tokP_plain H2.out.2.2.2 H2.out.2.2.1 (by decide) (by decide))
  · have HV := Lib.hid (hv rfl)
    clear hv
    go_wp2_with fail
    have hnm := num_any p (reset x q) b q _ H1.out.1 HV.out
    refine hnm.mono ?_
    rintro e w2 ⟨q', kd, un, rfl, hn, l2, g2⟩
    have hn : NumTo x.s q q q' kd un 0 := hn
    have f39 := l2.css.free 39
    obtain ⟨v39, k39⟩ := cell_any l2 39 (by omega)
    have H2 := Lib.hid (And.intro l2 (And.intro (gb_trans H1.out.2 g2) hn))
    clear hnm l2 g2 hn e35 e36 e37 e38 e39 e40
    go_wp2_with fail
    go_end0
    exact tok_done H2.out.1 H2.out.2.1 kd (tokP_num H2.out.2.2)

set_option maxRecDepth 100000 in
set_option maxHeartbeats 8000000 in
theorem nx_other (p : Nat) (x : Lx) (b q : Nat) (w : World) (h : Lex w p x b q) (c : Int) (hc : (decAt x.s q).1 = c) (hs : Safe x.s) (t0 : (c == -1) = false) (t1 : (c == 47) = false) (t2 : (c == 32) = false) (t3 : (c == 9) = false) (t4 : (c == 10) = false) (t5 : (c == 13) = false) (t6 : (c == 12) = false) (t7 : (c == 34) = false) (t8 : (c == 39) = false) (t9 : (c == 35) = false) (t10 : (c == 40) = false) (t11 : (c == 41) = false) (t12 : (c == 91) = false) (t13 : (c == 93) = false) (t14 : (c == 123) = false) (t15 : (c == 125) = false) (t16 : (c == 44) = false) (t17 : (c == 58) = false) (t18 : (c == 59) = false) (t19 : (c == 43) = false) (t20 : (c == 46) = false) (t21 : (c == 45) = false) (t22 : (c == 60) = false) (t23 : (c == 64) = false) (t24 : (c == 92) = false) (t25 : (c == 48) = false) (t26 : (c == 49) = false) (t27 : (c == 50) = false) (t28 : (c == 51) = false) (t29 : (c == 52) = false) (t30 : (c == 53) = false) (t31 : (c == 54) = false) (t32 : (c == 55) = false) (t33 : (c == 56) = false) (t34 : (c == 57) = false) (t35 : (c == 62) = false) (t36 : (c == 126) = false) (t37 : (c == 38) = false) (t38 : (c == 42) = false) (t39 : (c == 124) = false) (t40 : (c == 33) = false) (t41 : (c == 61) = false) (t42 : (c == 94) = false) (t43 : (c == 36) = false) : Calls Tryd.prog 72 #[.pointer (some ⟨p, 0, none⟩)] w (Tok w p x b q) := by
  obtain ⟨c10, c33, c35, c36, c37⟩ := h.cells
  rw [hc] at c35
  obtain ⟨ln, hln⟩ : ∃ ln, q - x.st = ln := ⟨_, rfl⟩
  rw [hln] at c37
  have hst := h.hst
  have hq := h.hq
  have hsz := h.hsz
  have hp := h.lt
  have HE := Lib.hid (fun w => end_any x.st ln w (by omega))
  rw [show x.st + ln = q by omega] at HE
  have H := Lib.hid (And.intro h hc)
  clear h hc hln
  have HN := Lib.hid (And.intro (ns_any c) hs)
  have hc1 : c ≠ -1 := beq_eq_false_iff_ne.1 t0
  clear hs
  go_enter Tryd.func72, Tryd.ntmps72
  go_wp2_with fail
  refine wp_loop_rounds 1 ?_
  rw [rounds_succ]
  go_wp2_with fail
  refine (HE.out _).mono ?_
  rintro e w1 ⟨rfl, b1⟩
  have l1 := H.out.1.kept b1
  have g1 : w.grownBy w1 (some p) := gb_of_below _ b1
  have H1 := Lib.hid (And.intro (tok_reset l1) (tok_gb g1 q))
  have f := l1.css.free
  have f36 := f 36
  have f37 := f 37
  have f38 := f 38
  have f39 := f 39
  have f40 := f 40
  have hp1 := l1.lt
  obtain ⟨e0, e10, e17, e18, e19, e20, e21, e32, e33, y35, e36, e37, e38, e39, e40⟩ := l1.css.cells
  have e35 : w1.cell? ⟨p, 35, none⟩ = some (.int .i32 c) := y35.trans (by rw [show (x.at b q).cp = c from H.out.2])
  clear f b1 l1 g1 y35 c10 c33 c35 c36 c37 e0 e10 e17 e18 e19 e20 e21 e32 e33
  go_wp2_with fail
  refine (HN.out.1 _).mono ?_
  rintro e w3 ⟨rfl, rfl⟩
  cases hns : nameStart c
  · have HS : Hid (q < x.s.size ∧ (decAt x.s q).2 = 1) := Lib.hid (by
      rcases decAt_cases x.s q with ⟨_, e⟩ | ⟨h1, _, e⟩ | ⟨_, _, e⟩
      · exact absurd (H.out.2.symm.trans (by rw [e])) hc1
      · exact ⟨h1, by rw [e]⟩
      · exfalso
        rw [H.out.2] at e
        rw [show nameStart c = true by simp only [nameStart, decide_eq_true_eq]; omega] at hns
        cases hns)
    clear hns
    go_wp2_with fail
    have hst2 := lex_step p (reset x q) b q _ H1.out.1
    rw [show (decAt (reset x q).s q).2 = 1 from HS.out.2] at hst2
    refine hst2.mono ?_
    rintro e w2 ⟨rfl, l2, g2⟩
    have f39 := l2.css.free 39
    obtain ⟨v39, k39⟩ := cell_any l2 39 (by omega)
    have H2 := Lib.hid (And.intro l2 (gb_trans H1.out.2 g2))
    clear hst2 l2 g2 e35 e36 e37 e38 e39 e40
    go_wp2_with fail
    go_end0
    exact tok_done H2.out.1 H2.out.2 11 (by have := HS.out.1; exact tokP_plain (by omega) this (by decide) (by decide))
  · have HS := Lib.hid hns
    clear hns
    go_wp2_with fail
    refine (id_any p (reset x q) b q _ H1.out.1 HN.out.2).mono ?_
    rintro e w2 ⟨q', rfl, hq1, hq2, hq3, l2, g2⟩
    have f39 := l2.css.free 39
    obtain ⟨v39, k39⟩ := cell_any l2 39 (by omega)
    have H2 := Lib.hid (And.intro l2 (And.intro (gb_trans H1.out.2 g2) (And.intro hq2 (hq3 (by show nameCont (decAt x.s q).1 = true; rw [H.out.2]; unfold nameCont; rw [HS.out]; rfl)))))
    clear hq1 hq2 hq3 l2 g2 e35 e36 e37 e38 e39 e40
    go_wp2_with fail
    go_end0
    exact tok_done H2.out.1 H2.out.2.1 29 (tokP_plain H2.out.2.2.2 H2.out.2.2.1 (by decide) (by decide))

end Go.Proofs.YtlbpplkanogkgaaDoor
