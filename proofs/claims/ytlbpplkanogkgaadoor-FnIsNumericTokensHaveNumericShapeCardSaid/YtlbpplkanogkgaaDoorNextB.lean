/-
  The css lexer's next on texts that hold no slash, backslash, quote or opening parenthesis: one theorem a class of code points (printed by gennext.py). No statement of the seat is proved here.
-/
import Derived.Test.YtlbpplkanogkgaaDoorCssNxtP
import Derived.Deep.LoopGhost
namespace Go.Proofs.YtlbpplkanogkgaaDoor
open Go.RowKit
set_option linter.unusedVariables false
set_option maxRecDepth 100000 in
set_option maxHeartbeats 8000000 in
theorem nx_eof (p : Nat) (x : Lx) (b q : Nat) (w : World) (h : Lex w p x b q) (hc : (decAt x.s q).1 = -1) : Calls Tryd.prog 72 #[.pointer (some ⟨p, 0, none⟩)] w (Tok w p x b q) := by
  obtain ⟨c10, c33, c35, c36, c37⟩ := h.cells
  rw [hc] at c35
  obtain ⟨ln, hln⟩ : ∃ ln, q - x.st = ln := ⟨_, rfl⟩
  rw [hln] at c37
  have hst := h.hst
  have hq := h.hq
  have hsz := h.hsz
  have hp := h.lt
  have HE := Lib.hid (fun w => end_any x.st ln w (by omega))
  rw [show x.st + ln = q by omega] at HE
  have H := Lib.hid (And.intro h hc)
  clear h hc hln
  go_enter Tryd.func72, Tryd.ntmps72
  go_wp2_with fail
  refine wp_loop_rounds 1 ?_
  rw [rounds_succ]
  go_wp2_with fail
  refine (HE.out _).mono ?_
  rintro e w1 ⟨rfl, b1⟩
  have l1 := H.out.1.kept b1
  have g1 : w.grownBy w1 (some p) := gb_of_below _ b1
  have H1 := Lib.hid (And.intro (tok_reset l1) (tok_gb g1 q))
  have f := l1.css.free
  have f36 := f 36
  have f37 := f 37
  have f38 := f 38
  have f39 := f 39
  have f40 := f 40
  have hp1 := l1.lt
  obtain ⟨e0, e10, e17, e18, e19, e20, e21, e32, e33, y35, e36, e37, e38, e39, e40⟩ := l1.css.cells
  have e35 : w1.cell? ⟨p, 35, none⟩ = some (.int .i32 (-1)) := y35.trans (by rw [show (x.at b q).cp = (-1) from H.out.2])
  clear f b1 l1 g1 y35 c10 c33 c35 c36 c37 e0 e10 e17 e18 e19 e20 e21 e32 e33
  go_wp2_with fail
  go_end0
  exact tok_done H1.out.1 H1.out.2 0 (.inl ⟨rfl, eof_at H.out.2 hq, rfl, rfl⟩)

set_option maxRecDepth 100000 in
set_option maxHeartbeats 8000000 in
theorem nx_dig48 (p : Nat) (x : Lx) (b q : Nat) (w : World) (h : Lex w p x b q) (hc : (decAt x.s q).1 = 48) : Calls Tryd.prog 72 #[.pointer (some ⟨p, 0, none⟩)] w (Tok w p x b q) := by
  obtain ⟨c10, c33, c35, c36, c37⟩ := h.cells
  rw [hc] at c35
  obtain ⟨ln, hln⟩ : ∃ ln, q - x.st = ln := ⟨_, rfl⟩
  rw [hln] at c37
  have hst := h.hst
  have hq := h.hq
  have hsz := h.hsz
  have hp := h.lt
  have HE := Lib.hid (fun w => end_any x.st ln w (by omega))
  rw [show x.st + ln = q by omega] at HE
  have H := Lib.hid (And.intro h hc)
  clear h hc hln
  go_enter Tryd.func72, Tryd.ntmps72
  go_wp2_with fail
  refine wp_loop_rounds 1 ?_
  rw [rounds_succ]
  go_wp2_with fail
  refine (HE.out _).mono ?_
  rintro e w1 ⟨rfl, b1⟩
  have l1 := H.out.1.kept b1
  have g1 : w.grownBy w1 (some p) := gb_of_below _ b1
  have H1 := Lib.hid (And.intro (tok_reset l1) (tok_gb g1 q))
  have f := l1.css.free
  have f36 := f 36
  have f37 := f 37
  have f38 := f 38
  have f39 := f 39
  have f40 := f 40
  have hp1 := l1.lt
  obtain ⟨e0, e10, e17, e18, e19, e20, e21, e32, e33, y35, e36, e37, e38, e39, e40⟩ := l1.css.cells
  have e35 : w1.cell? ⟨p, 35, none⟩ = some (.int .i32 48) := y35.trans (by rw [show (x.at b q).cp = 48 from H.out.2])
  clear f b1 l1 g1 y35 c10 c33 c35 c36 c37 e0 e10 e17 e18 e19 e20 e21 e32 e33
  go_wp2_with fail
  have hnm := num_any p (reset x q) b q _ H1.out.1 (by have hd := decAt_small x.s q H.out.2 (by omega) (by omega); exact ⟨hd.1, .inl ⟨by show 48 ≤ byteAt x.s q; omega, by show byteAt x.s q ≤ 57; omega⟩⟩)
  refine hnm.mono ?_
  rintro e w2 ⟨q', kd, un, rfl, hn, l2, g2⟩
  have hn : NumTo x.s q q q' kd un 0 := hn
  have f39 := l2.css.free 39
  obtain ⟨v39, k39⟩ := cell_any l2 39 (by omega)
  have H2 := Lib.hid (And.intro l2 (And.intro (gb_trans H1.out.2 g2) hn))
  clear hnm l2 g2 hn e35 e36 e37 e38 e39 e40
  go_wp2_with fail
  go_end0
  exact tok_done H2.out.1 H2.out.2.1 kd (tokP_num H2.out.2.2)

set_option maxRecDepth 100000 in
set_option maxHeartbeats 8000000 in
theorem nx_dig49 (p : Nat) (x : Lx) (b q : Nat) (w : World) (h : Lex w p x b q) (hc : (decAt x.s q).1 = 49) : Calls Tryd.prog 72 #[.pointer (some ⟨p, 0, none⟩)] w (Tok w p x b q) := by
  obtain ⟨c10, c33, c35, c36, c37⟩ := h.cells
  rw [hc] at c35
  obtain ⟨ln, hln⟩ : ∃ ln, q - x.st = ln := ⟨_, rfl⟩
  rw [hln] at c37
  have hst := h.hst
  have hq := h.hq
  have hsz := h.hsz
  have hp := h.lt
  have HE := Lib.hid (fun w => end_any x.st ln w (by omega))
  rw [show x.st + ln = q by omega] at HE
  have H := Lib.hid (And.intro h hc)
  clear h hc hln
  go_enter Tryd.func72, Tryd.ntmps72
  go_wp2_with fail
  refine wp_loop_rounds 1 ?_
  rw [rounds_succ]
  go_wp2_with fail
  refine (HE.out _).mono ?_
  rintro e w1 ⟨rfl, b1⟩
  have l1 := H.out.1.kept b1
  have g1 : w.grownBy w1 (some p) := gb_of_below _ b1
  have H1 := Lib.hid (And.intro (tok_reset l1) (tok_gb g1 q))
  have f := l1.css.free
  have f36 := f 36
  have f37 := f 37
  have f38 := f 38
  have f39 := f 39
  have f40 := f 40
  have hp1 := l1.lt
  obtain ⟨e0, e10, e17, e18, e19, e20, e21, e32, e33, y35, e36, e37, e38, e39, e40⟩ := l1.css.cells
  have e35 : w1.cell? ⟨p, 35, none⟩ = some (.int .i32 49) := y35.trans (by rw [show (x.at b q).cp = 49 from H.out.2])
  clear f b1 l1 g1 y35 c10 c33 c35 c36 c37 e0 e10 e17 e18 e19 e20 e21 e32 e33
  go_wp2_with fail
  have hnm := num_any p (reset x q) b q _ H1.out.1 (by have hd := decAt_small x.s q H.out.2 (by omega) (by omega); exact ⟨hd.1, .inl ⟨by show 48 ≤ byteAt x.s q; omega, by show byteAt x.s q ≤ 57; omega⟩⟩)
  refine hnm.mono ?_
  rintro e w2 ⟨q', kd, un, rfl, hn, l2, g2⟩
  have hn : NumTo x.s q q q' kd un 0 := hn
  have f39 := l2.css.free 39
  obtain ⟨v39, k39⟩ := cell_any l2 39 (by omega)
  have H2 := Lib.hid (And.intro l2 (And.intro (gb_trans H1.out.2 g2) hn))
  clear hnm l2 g2 hn e35 e36 e37 e38 e39 e40
  go_wp2_with fail
  go_end0
  exact tok_done H2.out.1 H2.out.2.1 kd (tokP_num H2.out.2.2)

set_option maxRecDepth 100000 in
set_option maxHeartbeats 8000000 in
theorem nx_dig50 (p : Nat) (x : Lx) (b q : Nat) (w : World) (h : Lex w p x b q) (hc : (decAt x.s q).1 = 50) : Calls Tryd.prog 72 #[.pointer (some ⟨p, 0, none⟩)] w (Tok w p x b q) := by
  obtain ⟨c10, c33, c35, c36, c37⟩ := h.cells
  rw [hc] at c35
  obtain ⟨ln, hln⟩ : ∃ ln, q - x.st = ln := ⟨_, rfl⟩
  rw [hln] at c37
  have hst := h.hst
  have hq := h.hq
  have hsz := h.hsz
  have hp := h.lt
  have HE := Lib.hid (fun w => end_any x.st ln w (by omega))
  rw [show x.st + ln = q by omega] at HE
  have H := Lib.hid (And.intro h hc)
  clear h hc hln
  go_enter Tryd.func72, Tryd.ntmps72
  go_wp2_with fail
  refine wp_loop_rounds 1 ?_
  rw [rounds_succ]
  go_wp2_with fail
  refine (HE.out _).mono ?_
  rintro e w1 ⟨rfl, b1⟩
  have l1 := H.out.1.kept b1
  have g1 : w.grownBy w1 (some p) := gb_of_below _ b1
  have H1 := Lib.hid (And.intro (tok_reset l1) (tok_gb g1 q))
  have f := l1.css.free
  have f36 := f 36
  have f37 := f 37
  have f38 := f 38
  have f39 := f 39
  have f40 := f 40
  have hp1 := l1.lt
  obtain ⟨e0, e10, e17, e18, e19, e20, e21, e32, e33, y35, e36, e37, e38, e39, e40⟩ := l1.css.cells
  have e35 : w1.cell? ⟨p, 35, none⟩ = some (.int .i32 50) := y35.trans (by rw [show (x.at b q).cp = 50 from H.out.2])
  clear f b1 l1 g1 y35 c10 c33 c35 c36 c37 e0 e10 e17 e18 e19 e20 e21 e32 e33
  go_wp2_with fail
  have hnm := num_any p (reset x q) b q _ H1.out.1 (by have hd := decAt_small x.s q H.out.2 (by omega) (by omega); exact ⟨hd.1, .inl ⟨by show 48 ≤ byteAt x.s q; omega, by show byteAt x.s q ≤ 57; omega⟩⟩)
  refine hnm.mono ?_
  rintro e w2 ⟨q', kd, un, rfl, hn, l2, g2⟩
  have hn : NumTo x.s q q q' kd un 0 := hn
  have f39 := l2.css.free 39
  obtain ⟨v39, k39⟩ := cell_any l2 39 (by omega)
  have H2 := Lib.hid (And.intro l2 (And.intro (gb_trans H1.out.2 g2) hn))
  clear hnm l2 g2 hn e35 e36 e37 e38 e39 e40
  go_wp2_with fail
  go_end0
  exact tok_done H2.out.1 H2.out.2.1 kd (tokP_num H2.out.2.2)

set_option maxRecDepth 100000 in
set_option maxHeartbeats 8000000 in
theorem nx_dig51 (p : Nat) (x : Lx) (b q : Nat) (w : World) (h : Lex w p x b q) (hc : (decAt x.s q).1 = 51) : Calls Tryd.prog 72 #[.pointer (some ⟨p, 0, none⟩)] w (Tok w p x b q) := by
  obtain ⟨c10, c33, c35, c36, c37⟩ := h.cells
  rw [hc] at c35
  obtain ⟨ln, hln⟩ : ∃ ln, q - x.st = ln := ⟨_, rfl⟩
  rw [hln] at c37
  have hst := h.hst
  have hq := h.hq
  have hsz := h.hsz
  have hp := h.lt
  have HE := Lib.hid (fun w => end_any x.st ln w (by omega))
  rw [show x.st + ln = q by omega] at HE
  have H := Lib.hid (And.intro h hc)
  clear h hc hln
  go_enter Tryd.func72, Tryd.ntmps72
  go_wp2_with fail
  refine wp_loop_rounds 1 ?_
  rw [rounds_succ]
  go_wp2_with fail
  refine (HE.out _).mono ?_
  rintro e w1 ⟨rfl, b1⟩
  have l1 := H.out.1.kept b1
  have g1 : w.grownBy w1 (some p) := gb_of_below _ b1
  have H1 := Lib.hid (And.intro (tok_reset l1) (tok_gb g1 q))
  have f := l1.css.free
  have f36 := f 36
  have f37 := f 37
  have f38 := f 38
  have f39 := f 39
  have f40 := f 40
  have hp1 := l1.lt
  obtain ⟨e0, e10, e17, e18, e19, e20, e21, e32, e33, y35, e36, e37, e38, e39, e40⟩ := l1.css.cells
  have e35 : w1.cell? ⟨p, 35, none⟩ = some (.int .i32 51) := y35.trans (by rw [show (x.at b q).cp = 51 from H.out.2])
  clear f b1 l1 g1 y35 c10 c33 c35 c36 c37 e0 e10 e17 e18 e19 e20 e21 e32 e33
  go_wp2_with fail
  have hnm := num_any p (reset x q) b q _ H1.out.1 (by have hd := decAt_small x.s q H.out.2 (by omega) (by omega); exact ⟨hd.1, .inl ⟨by show 48 ≤ byteAt x.s q; omega, by show byteAt x.s q ≤ 57; omega⟩⟩)
  refine hnm.mono ?_
  rintro e w2 ⟨q', kd, un, rfl, hn, l2, g2⟩
  have hn : NumTo x.s q q q' kd un 0 := hn
  have f39 := l2.css.free 39
  obtain ⟨v39, k39⟩ := cell_any l2 39 (by omega)
  have H2 := Lib.hid (And.intro l2 (And.intro (gb_trans H1.out.2 g2) hn))
  clear hnm l2 g2 hn e35 e36 e37 e38 e39 e40
  go_wp2_with fail
  go_end0
  exact tok_done H2.out.1 H2.out.2.1 kd (tokP_num H2.out.2.2)

set_option maxRecDepth 100000 in
set_option maxHeartbeats 8000000 in
theorem nx_dig52 (p : Nat) (x : Lx) (b q : Nat) (w : World) (h : Lex w p x b q) (hc : (decAt x.s q).1 = 52) : Calls Tryd.prog 72 #[.pointer (some ⟨p, 0, none⟩)] w (Tok w p x b q) := by
  obtain ⟨c10, c33, c35, c36, c37⟩ := h.cells
  rw [hc] at c35
  obtain ⟨ln, hln⟩ : ∃ ln, q - x.st = ln := ⟨_, rfl⟩
  rw [hln] at c37
  have hst := h.hst
  have hq := h.hq
  have hsz := h.hsz
  have hp := h.lt
  have HE := Lib.hid (fun w => end_any x.st ln w (by omega))
  rw [show x.st + ln = q by omega] at HE
  have H := Lib.hid (And.intro h hc)
  clear h hc hln
  go_enter Tryd.func72, Tryd.ntmps72
  go_wp2_with fail
  refine wp_loop_rounds 1 ?_
  rw [rounds_succ]
  go_wp2_with fail
  refine (HE.out _).mono ?_
  rintro e w1 ⟨rfl, b1⟩
  have l1 := H.out.1.kept b1
  have g1 : w.grownBy w1 (some p) := gb_of_below _ b1
  have H1 := Lib.hid (And.intro (tok_reset l1) (tok_gb g1 q))
  have f := l1.css.free
  have f36 := f 36
  have f37 := f 37
  have f38 := f 38
  have f39 := f 39
  have f40 := f 40
  have hp1 := l1.lt
  obtain ⟨e0, e10, e17, e18, e19, e20, e21, e32, e33, y35, e36, e37, e38, e39, e40⟩ := l1.css.cells
  have e35 : w1.cell? ⟨p, 35, none⟩ = some (.int .i32 52) := y35.trans (by rw [show (x.at b q).cp = 52 from H.out.2])
  clear f b1 l1 g1 y35 c10 c33 c35 c36 c37 e0 e10 e17 e18 e19 e20 e21 e32 e33
  go_wp2_with fail
  have hnm := num_any p (reset x q) b q _ H1.out.1 (by have hd := decAt_small x.s q H.out.2 (by omega) (by omega); exact ⟨hd.1, .inl ⟨by show 48 ≤ byteAt x.s q; omega, by show byteAt x.s q ≤ 57; omega⟩⟩)
  refine hnm.mono ?_
  rintro e w2 ⟨q', kd, un, rfl, hn, l2, g2⟩
  have hn : NumTo x.s q q q' kd un 0 := hn
  have f39 := l2.css.free 39
  obtain ⟨v39, k39⟩ := cell_any l2 39 (by omega)
  have H2 := Lib.hid (And.intro l2 (And.intro (gb_trans H1.out.2 g2) hn))
  clear hnm l2 g2 hn e35 e36 e37 e38 e39 e40
  go_wp2_with fail
  go_end0
  exact tok_done H2.out.1 H2.out.2.1 kd (tokP_num H2.out.2.2)

set_option maxRecDepth 100000 in
set_option maxHeartbeats 8000000 in
theorem nx_dig53 (p : Nat) (x : Lx) (b q : Nat) (w : World) (h : Lex w p x b q) (hc : (decAt x.s q).1 = 53) : Calls Tryd.prog 72 #[.pointer (some ⟨p, 0, none⟩)] w (Tok w p x b q) := by
  obtain ⟨c10, c33, c35, c36, c37⟩ := h.cells
  rw [hc] at c35
  obtain ⟨ln, hln⟩ : ∃ ln, q - x.st = ln := ⟨_, rfl⟩
  rw [hln] at c37
  have hst := h.hst
  have hq := h.hq
  have hsz := h.hsz
  have hp := h.lt
  have HE := Lib.hid (fun w => end_any x.st ln w (by omega))
  rw [show x.st + ln = q by omega] at HE
  have H := Lib.hid (And.intro h hc)
  clear h hc hln
  go_enter Tryd.func72, Tryd.ntmps72
  go_wp2_with fail
  refine wp_loop_rounds 1 ?_
  rw [rounds_succ]
  go_wp2_with fail
  refine (HE.out _).mono ?_
  rintro e w1 ⟨rfl, b1⟩
  have l1 := H.out.1.kept b1
  have g1 : w.grownBy w1 (some p) := gb_of_below _ b1
  have H1 := Lib.hid (And.intro (tok_reset l1) (tok_gb g1 q))
  have f := l1.css.free
  have f36 := f 36
  have f37 := f 37
  have f38 := f 38
  have f39 := f 39
  have f40 := f 40
  have hp1 := l1.lt
  obtain ⟨e0, e10, e17, e18, e19, e20, e21, e32, e33, y35, e36, e37, e38, e39, e40⟩ := l1.css.cells
  have e35 : w1.cell? ⟨p, 35, none⟩ = some (.int .i32 53) := y35.trans (by rw [show (x.at b q).cp = 53 from H.out.2])
  clear f b1 l1 g1 y35 c10 c33 c35 c36 c37 e0 e10 e17 e18 e19 e20 e21 e32 e33
  go_wp2_with fail
  have hnm := num_any p (reset x q) b q _ H1.out.1 (by have hd := decAt_small x.s q H.out.2 (by omega) (by omega); exact ⟨hd.1, .inl ⟨by show 48 ≤ byteAt x.s q; omega, by show byteAt x.s q ≤ 57; omega⟩⟩)
  refine hnm.mono ?_
  rintro e w2 ⟨q', kd, un, rfl, hn, l2, g2⟩
  have hn : NumTo x.s q q q' kd un 0 := hn
  have f39 := l2.css.free 39
  obtain ⟨v39, k39⟩ := cell_any l2 39 (by omega)
  have H2 := Lib.hid (And.intro l2 (And.intro (gb_trans H1.out.2 g2) hn))
  clear hnm l2 g2 hn e35 e36 e37 e38 e39 e40
  go_wp2_with fail
  go_end0
  exact tok_done H2.out.1 H2.out.2.1 kd (tokP_num H2.out.2.2)

set_option maxRecDepth 100000 in
set_option maxHeartbeats 8000000 in
theorem nx_dig54 (p : Nat) (x : Lx) (b q : Nat) (w : World) (h : Lex w p x b q) (hc : (decAt x.s q).1 = 54) : Calls Tryd.prog 72 #[.pointer (some ⟨p, 0, none⟩)] w (Tok w p x b q) := by
  obtain ⟨c10, c33, c35, c36, c37⟩ := h.cells
  rw [hc] at c35
  obtain ⟨ln, hln⟩ : ∃ ln, q - x.st = ln := ⟨_, rfl⟩
  rw [hln] at c37
  have hst := h.hst
  have hq := h.hq
  have hsz := h.hsz
  have hp := h.lt
  have HE := Lib.hid (fun w => end_any x.st ln w (by omega))
  rw [show x.st + ln = q by omega] at HE
  have H := Lib.hid (And.intro h hc)
  clear h hc hln
  go_enter Tryd.func72, Tryd.ntmps72
  go_wp2_with fail
  refine wp_loop_rounds 1 ?_
  rw [rounds_succ]
  go_wp2_with fail
  refine (HE.out _).mono ?_
  rintro e w1 ⟨rfl, b1⟩
  have l1 := H.out.1.kept b1
  have g1 : w.grownBy w1 (some p) := gb_of_below _ b1
  have H1 := Lib.hid (And.intro (tok_reset l1) (tok_gb g1 q))
  have f := l1.css.free
  have f36 := f 36
  have f37 := f 37
  have f38 := f 38
  have f39 := f 39
  have f40 := f 40
  have hp1 := l1.lt
  obtain ⟨e0, e10, e17, e18, e19, e20, e21, e32, e33, y35, e36, e37, e38, e39, e40⟩ := l1.css.cells
  have e35 : w1.cell? ⟨p, 35, none⟩ = some (.int .i32 54) := y35.trans (by rw [show (x.at b q).cp = 54 from H.out.2])
  clear f b1 l1 g1 y35 c10 c33 c35 c36 c37 e0 e10 e17 e18 e19 e20 e21 e32 e33
  go_wp2_with fail
  have hnm := num_any p (reset x q) b q _ H1.out.1 (by have hd := decAt_small x.s q H.out.2 (by omega) (by omega); exact ⟨hd.1, .inl ⟨by show 48 ≤ byteAt x.s q; omega, by show byteAt x.s q ≤ 57; omega⟩⟩)
  refine hnm.mono ?_
  rintro e w2 ⟨q', kd, un, rfl, hn, l2, g2⟩
  have hn : NumTo x.s q q q' kd un 0 := hn
  have f39 := l2.css.free 39
  obtain ⟨v39, k39⟩ := cell_any l2 39 (by omega)
  have H2 := Lib.hid (And.intro l2 (And.intro (gb_trans H1.out.2 g2) hn))
  clear hnm l2 g2 hn e35 e36 e37 e38 e39 e40
  go_wp2_with fail
  go_end0
  exact tok_done H2.out.1 H2.out.2.1 kd (tokP_num H2.out.2.2)

set_option maxRecDepth 100000 in
set_option maxHeartbeats 8000000 in
theorem nx_dig55 (p : Nat) (x : Lx) (b q : Nat) (w : World) (h : Lex w p x b q) (hc : (decAt x.s q).1 = 55) : Calls Tryd.prog 72 #[.pointer (some ⟨p, 0, none⟩)] w (Tok w p x b q) := by
  obtain ⟨c10, c33, c35, c36, c37⟩ := h.cells
  rw [hc] at c35
  obtain ⟨ln, hln⟩ : ∃ ln, q - x.st = ln := ⟨_, rfl⟩
  rw [hln] at c37
  have hst := h.hst
  have hq := h.hq
  have hsz := h.hsz
  have hp := h.lt
  have HE := Lib.hid (fun w => end_any x.st ln w (by omega))
  rw [show x.st + ln = q by omega] at HE
  have H := Lib.hid (And.intro h hc)
  clear h hc hln
  go_enter Tryd.func72, Tryd.ntmps72
  go_wp2_with fail
  refine wp_loop_rounds 1 ?_
  rw [rounds_succ]
  go_wp2_with fail
  refine (HE.out _).mono ?_
  rintro e w1 ⟨rfl, b1⟩
  have l1 := H.out.1.kept b1
  have g1 : w.grownBy w1 (some p) := gb_of_below _ b1
  have H1 := Lib.hid (And.intro (tok_reset l1) (tok_gb g1 q))
  have f := l1.css.free
  have f36 := f 36
  have f37 := f 37
  have f38 := f 38
  have f39 := f 39
  have f40 := f 40
  have hp1 := l1.lt
  obtain ⟨e0, e10, e17, e18, e19, e20, e21, e32, e33, y35, e36, e37, e38, e39, e40⟩ := l1.css.cells
  have e35 : w1.cell? ⟨p, 35, none⟩ = some (.int .i32 55) := y35.trans (by rw [show (x.at b q).cp = 55 from H.out.2])
  clear f b1 l1 g1 y35 c10 c33 c35 c36 c37 e0 e10 e17 e18 e19 e20 e21 e32 e33
  go_wp2_with fail
  have hnm := num_any p (reset x q) b q _ H1.out.1 (by have hd := decAt_small x.s q H.out.2 (by omega) (by omega); exact ⟨hd.1, .inl ⟨by show 48 ≤ byteAt x.s q; omega, by show byteAt x.s q ≤ 57; omega⟩⟩)
  refine hnm.mono ?_
  rintro e w2 ⟨q', kd, un, rfl, hn, l2, g2⟩
  have hn : NumTo x.s q q q' kd un 0 := hn
  have f39 := l2.css.free 39
  obtain ⟨v39, k39⟩ := cell_any l2 39 (by omega)
  have H2 := Lib.hid (And.intro l2 (And.intro (gb_trans H1.out.2 g2) hn))
  clear hnm l2 g2 hn e35 e36 e37 e38 e39 e40
  go_wp2_with fail
  go_end0
  exact tok_done H2.out.1 H2.out.2.1 kd (tokP_num H2.out.2.2)

set_option maxRecDepth 100000 in
set_option maxHeartbeats 8000000 in
theorem nx_dig56 (p : Nat) (x : Lx) (b q : Nat) (w : World) (h : Lex w p x b q) (hc : (decAt x.s q).1 = 56) : Calls Tryd.prog 72 #[.pointer (some ⟨p, 0, none⟩)] w (Tok w p x b q) := by
  obtain ⟨c10, c33, c35, c36, c37⟩ := h.cells
  rw [hc] at c35
  obtain ⟨ln, hln⟩ : ∃ ln, q - x.st = ln := ⟨_, rfl⟩
  rw [hln] at c37
  have hst := h.hst
  have hq := h.hq
  have hsz := h.hsz
  have hp := h.lt
  have HE := Lib.hid (fun w => end_any x.st ln w (by omega))
  rw [show x.st + ln = q by omega] at HE
  have H := Lib.hid (And.intro h hc)
  clear h hc hln
  go_enter Tryd.func72, Tryd.ntmps72
  go_wp2_with fail
  refine wp_loop_rounds 1 ?_
  rw [rounds_succ]
  go_wp2_with fail
  refine (HE.out _).mono ?_
  rintro e w1 ⟨rfl, b1⟩
  have l1 := H.out.1.kept b1
  have g1 : w.grownBy w1 (some p) := gb_of_below _ b1
  have H1 := Lib.hid (And.intro (tok_reset l1) (tok_gb g1 q))
  have f := l1.css.free
  have f36 := f 36
  have f37 := f 37
  have f38 := f 38
  have f39 := f 39
  have f40 := f 40
  have hp1 := l1.lt
  obtain ⟨e0, e10, e17, e18, e19, e20, e21, e32, e33, y35, e36, e37, e38, e39, e40⟩ := l1.css.cells
  have e35 : w1.cell? ⟨p, 35, none⟩ = some (.int .i32 56) := y35.trans (by rw [show (x.at b q).cp = 56 from H.out.2])
  clear f b1 l1 g1 y35 c10 c33 c35 c36 c37 e0 e10 e17 e18 e19 e20 e21 e32 e33
  go_wp2_with fail
  have hnm := num_any p (reset x q) b q _ H1.out.1 (by have hd := decAt_small x.s q H.out.2 (by omega) (by omega); exact ⟨hd.1, .inl ⟨by show 48 ≤ byteAt x.s q; omega, by show byteAt x.s q ≤ 57; omega⟩⟩)
  refine hnm.mono ?_
  rintro e w2 ⟨q', kd, un, rfl, hn, l2, g2⟩
  have hn : NumTo x.s q q q' kd un 0 := hn
  have f39 := l2.css.free 39
  obtain ⟨v39, k39⟩ := cell_any l2 39 (by omega)
  have H2 := Lib.hid (And.intro l2 (And.intro (gb_trans H1.out.2 g2) hn))
  clear hnm l2 g2 hn e35 e36 e37 e38 e39 e40
  go_wp2_with fail
  go_end0
  exact tok_done H2.out.1 H2.out.2.1 kd (tokP_num H2.out.2.2)

set_option maxRecDepth 100000 in
set_option maxHeartbeats 8000000 in
theorem nx_dig57 (p : Nat) (x : Lx) (b q : Nat) (w : World) (h : Lex w p x b q) (hc : (decAt x.s q).1 = 57) : Calls Tryd.prog 72 #[.pointer (some ⟨p, 0, none⟩)] w (Tok w p x b q) := by
  obtain ⟨c10, c33, c35, c36, c37⟩ := h.cells
  rw [hc] at c35
  obtain ⟨ln, hln⟩ : ∃ ln, q - x.st = ln := ⟨_, rfl⟩
  rw [hln] at c37
  have hst := h.hst
  have hq := h.hq
  have hsz := h.hsz
  have hp := h.lt
  have HE := Lib.hid (fun w => end_any x.st ln w (by omega))
  rw [show x.st + ln = q by omega] at HE
  have H := Lib.hid (And.intro h hc)
  clear h hc hln
  go_enter Tryd.func72, Tryd.ntmps72
  go_wp2_with fail
  refine wp_loop_rounds 1 ?_
  rw [rounds_succ]
  go_wp2_with fail
  refine (HE.out _).mono ?_
  rintro e w1 ⟨rfl, b1⟩
  have l1 := H.out.1.kept b1
  have g1 : w.grownBy w1 (some p) := gb_of_below _ b1
  have H1 := Lib.hid (And.intro (tok_reset l1) (tok_gb g1 q))
  have f := l1.css.free
  have f36 := f 36
  have f37 := f 37
  have f38 := f 38
  have f39 := f 39
  have f40 := f 40
  have hp1 := l1.lt
  obtain ⟨e0, e10, e17, e18, e19, e20, e21, e32, e33, y35, e36, e37, e38, e39, e40⟩ := l1.css.cells
  have e35 : w1.cell? ⟨p, 35, none⟩ = some (.int .i32 57) := y35.trans (by rw [show (x.at b q).cp = 57 from H.out.2])
  clear f b1 l1 g1 y35 c10 c33 c35 c36 c37 e0 e10 e17 e18 e19 e20 e21 e32 e33
  go_wp2_with fail
  have hnm := num_any p (reset x q) b q _ H1.out.1 (by have hd := decAt_small x.s q H.out.2 (by omega) (by omega); exact ⟨hd.1, .inl ⟨by show 48 ≤ byteAt x.s q; omega, by show byteAt x.s q ≤ 57; omega⟩⟩)
  refine hnm.mono ?_
  rintro e w2 ⟨q', kd, un, rfl, hn, l2, g2⟩
  have hn : NumTo x.s q q q' kd un 0 := hn
  have f39 := l2.css.free 39
  obtain ⟨v39, k39⟩ := cell_any l2 39 (by omega)
  have H2 := Lib.hid (And.intro l2 (And.intro (gb_trans H1.out.2 g2) hn))
  clear hnm l2 g2 hn e35 e36 e37 e38 e39 e40
  go_wp2_with fail
  go_end0
  exact tok_done H2.out.1 H2.out.2.1 kd (tokP_num H2.out.2.2)

set_option maxRecDepth 100000 in
set_option maxHeartbeats 8000000 in
theorem nx_plus (p : Nat) (x : Lx) (b q : Nat) (w : World) (h : Lex w p x b q) (hc : (decAt x.s q).1 = 43) : Calls Tryd.prog 72 #[.pointer (some ⟨p, 0, none⟩)] w (Tok w p x b q) := by
  obtain ⟨c10, c33, c35, c36, c37⟩ := h.cells
  rw [hc] at c35
  obtain ⟨ln, hln⟩ : ∃ ln, q - x.st = ln := ⟨_, rfl⟩
  rw [hln] at c37
  have hst := h.hst
  have hq := h.hq
  have hsz := h.hsz
  have hp := h.lt
  have HE := Lib.hid (fun w => end_any x.st ln w (by omega))
  rw [show x.st + ln = q by omega] at HE
  have H := Lib.hid (And.intro h hc)
  clear h hc hln
  go_enter Tryd.func72, Tryd.ntmps72
  go_wp2_with fail
  refine wp_loop_rounds 1 ?_
  rw [rounds_succ]
  go_wp2_with fail
  refine (HE.out _).mono ?_
  rintro e w1 ⟨rfl, b1⟩
  have l1 := H.out.1.kept b1
  have g1 : w.grownBy w1 (some p) := gb_of_below _ b1
  have H1 := Lib.hid (And.intro (tok_reset l1) (tok_gb g1 q))
  have f := l1.css.free
  have f36 := f 36
  have f37 := f 37
  have f38 := f 38
  have f39 := f 39
  have f40 := f 40
  have hp1 := l1.lt
  obtain ⟨e0, e10, e17, e18, e19, e20, e21, e32, e33, y35, e36, e37, e38, e39, e40⟩ := l1.css.cells
  have e35 : w1.cell? ⟨p, 35, none⟩ = some (.int .i32 43) := y35.trans (by rw [show (x.at b q).cp = 43 from H.out.2])
  clear f b1 l1 g1 y35 c10 c33 c35 c36 c37 e0 e10 e17 e18 e19 e20 e21 e32 e33
  go_wp2_with fail
  refine (wsn_sign p (reset x q) b q _ H1.out.1 (.inl H.out.2)).mono ?_
  rintro e w3 ⟨v, rfl, hv, rfl⟩
  cases v
  · clear hv
    go_wp2_with fail
    have hst2 := lex_step p (reset x q) b q _ H1.out.1
    rw [show (decAt (reset x q).s q).2 = 1 from (decAt_small x.s q H.out.2 (by omega) (by omega)).2.2] at hst2
    refine hst2.mono ?_
    rintro e w2 ⟨rfl, l2, g2⟩
    have f39 := l2.css.free 39
    obtain ⟨v39, k39⟩ := cell_any l2 39 (by omega)
    have H2 := Lib.hid (And.intro l2 (gb_trans H1.out.2 g2))
    clear hst2 l2 g2 e35 e36 e37 e38 e39 e40
    go_wp2_with fail
    go_end0
    exact tok_done H2.out.1 H2.out.2 23 (by have := (decAt_small x.s q H.out.2 (by omega) (by omega)).1; exact tokP_plain (by omega) this (by decide) (by decide))
  · have HV := Lib.hid (hv rfl)
    clear hv
    go_wp2_with fail
    have hnm := num_any p (reset x q) b q _ H1.out.1 HV.out
    refine hnm.mono ?_
    rintro e w2 ⟨q', kd, un, rfl, hn, l2, g2⟩
    have hn : NumTo x.s q q q' kd un 0 := hn
    have f39 := l2.css.free 39
    obtain ⟨v39, k39⟩ := cell_any l2 39 (by omega)
    have H2 := Lib.hid (And.intro l2 (And.intro (gb_trans H1.out.2 g2) hn))
    clear hnm l2 g2 hn e35 e36 e37 e38 e39 e40
    go_wp2_with fail
    go_end0
    exact tok_done H2.out.1 H2.out.2.1 kd (tokP_num H2.out.2.2)

set_option maxRecDepth 100000 in
set_option maxHeartbeats 8000000 in
theorem nx_dot (p : Nat) (x : Lx) (b q : Nat) (w : World) (h : Lex w p x b q) (hc : (decAt x.s q).1 = 46) : Calls Tryd.prog 72 #[.pointer (some ⟨p, 0, none⟩)] w (Tok w p x b q) := by
  obtain ⟨c10, c33, c35, c36, c37⟩ := h.cells
  rw [hc] at c35
  obtain ⟨ln, hln⟩ : ∃ ln, q - x.st = ln := ⟨_, rfl⟩
  rw [hln] at c37
  have hst := h.hst
  have hq := h.hq
  have hsz := h.hsz
  have hp := h.lt
  have HE := Lib.hid (fun w => end_any x.st ln w (by omega))
  rw [show x.st + ln = q by omega] at HE
  have H := Lib.hid (And.intro h hc)
  clear h hc hln
  go_enter Tryd.func72, Tryd.ntmps72
  go_wp2_with fail
  refine wp_loop_rounds 1 ?_
  rw [rounds_succ]
  go_wp2_with fail
  refine (HE.out _).mono ?_
  rintro e w1 ⟨rfl, b1⟩
  have l1 := H.out.1.kept b1
  have g1 : w.grownBy w1 (some p) := gb_of_below _ b1
  have H1 := Lib.hid (And.intro (tok_reset l1) (tok_gb g1 q))
  have f := l1.css.free
  have f36 := f 36
  have f37 := f 37
  have f38 := f 38
  have f39 := f 39
  have f40 := f 40
  have hp1 := l1.lt
  obtain ⟨e0, e10, e17, e18, e19, e20, e21, e32, e33, y35, e36, e37, e38, e39, e40⟩ := l1.css.cells
  have e35 : w1.cell? ⟨p, 35, none⟩ = some (.int .i32 46) := y35.trans (by rw [show (x.at b q).cp = 46 from H.out.2])
  clear f b1 l1 g1 y35 c10 c33 c35 c36 c37 e0 e10 e17 e18 e19 e20 e21 e32 e33
  go_wp2_with fail
  refine (wsn_dot p (reset x q) b q _ H1.out.1 H.out.2).mono ?_
  rintro e w3 ⟨v, rfl, hv, rfl⟩
  cases v
  · clear hv
    go_wp2_with fail
    have hst2 := lex_step p (reset x q) b q _ H1.out.1
    rw [show (decAt (reset x q).s q).2 = 1 from (decAt_small x.s q H.out.2 (by omega) (by omega)).2.2] at hst2
    refine hst2.mono ?_
    rintro e w2 ⟨rfl, l2, g2⟩
    have f39 := l2.css.free 39
    obtain ⟨v39, k39⟩ := cell_any l2 39 (by omega)
    have H2 := Lib.hid (And.intro l2 (gb_trans H1.out.2 g2))
    clear hst2 l2 g2 e35 e36 e37 e38 e39 e40
    go_wp2_with fail
    go_end0
    exact tok_done H2.out.1 H2.out.2 17 (by have := (decAt_small x.s q H.out.2 (by omega) (by omega)).1; exact tokP_plain (by omega) this (by decide) (by decide))
  · have HV := Lib.hid (hv rfl)
    clear hv
    go_wp2_with fail
    have hnm := num_any p (reset x q) b q _ H1.out.1 HV.out
    refine hnm.mono ?_
    rintro e w2 ⟨q', kd, un, rfl, hn, l2, g2⟩
    have hn : NumTo x.s q q q' kd un 0 := hn
    have f39 := l2.css.free 39
    obtain ⟨v39, k39⟩ := cell_any l2 39 (by omega)
    have H2 := Lib.hid (And.intro l2 (And.intro (gb_trans H1.out.2 g2) hn))
    clear hnm l2 g2 hn e35 e36 e37 e38 e39 e40
    go_wp2_with fail
    go_end0
    exact tok_done H2.out.1 H2.out.2.1 kd (tokP_num H2.out.2.2)

end Go.Proofs.YtlbpplkanogkgaaDoor
