/-
  The css lexer's next on texts that hold no slash, backslash, quote or opening parenthesis: one theorem a class of code points (printed by gennext.py). No statement of the seat is proved here.
-/
import Derived.Test.YtlbpplkanogkgaaDoorCssNxtP
import Derived.Deep.LoopGhost
namespace Go.Proofs.YtlbpplkanogkgaaDoor
open Go.RowKit
set_option linter.unusedVariables false
set_option maxRecDepth 100000 in
set_option maxHeartbeats 8000000 in
theorem nx_cparen (p : Nat) (x : Lx) (b q : Nat) (w : World) (h : Lex w p x b q) (hc : (decAt x.s q).1 = 41) : Calls Tryd.prog 72 #[.pointer (some ⟨p, 0, none⟩)] w (Tok w p x b q) := by
  obtain ⟨c10, c33, c35, c36, c37⟩ := h.cells
  rw [hc] at c35
  obtain ⟨ln, hln⟩ : ∃ ln, q - x.st = ln := ⟨_, rfl⟩
  rw [hln] at c37
  have hst := h.hst
  have hq := h.hq
  have hsz := h.hsz
  have hp := h.lt
  have HE := Lib.hid (fun w => end_any x.st ln w (by omega))
  rw [show x.st + ln = q by omega] at HE
  have H := Lib.hid (And.intro h hc)
  clear h hc hln
  go_enter Tryd.func72, Tryd.ntmps72
  go_wp2_with fail
  refine wp_loop_rounds 1 ?_
  rw [rounds_succ]
  go_wp2_with fail
  refine (HE.out _).mono ?_
  rintro e w1 ⟨rfl, b1⟩
  have l1 := H.out.1.kept b1
  have g1 : w.grownBy w1 (some p) := gb_of_below _ b1
  have H1 := Lib.hid (And.intro (tok_reset l1) (tok_gb g1 q))
  have f := l1.css.free
  have f36 := f 36
  have f37 := f 37
  have f38 := f 38
  have f39 := f 39
  have f40 := f 40
  have hp1 := l1.lt
  obtain ⟨e0, e10, e17, e18, e19, e20, e21, e32, e33, y35, e36, e37, e38, e39, e40⟩ := l1.css.cells
  have e35 : w1.cell? ⟨p, 35, none⟩ = some (.int .i32 41) := y35.trans (by rw [show (x.at b q).cp = 41 from H.out.2])
  clear f b1 l1 g1 y35 c10 c33 c35 c36 c37 e0 e10 e17 e18 e19 e20 e21 e32 e33
  go_wp2_with fail
  have hst2 := lex_step p (reset x q) b q _ H1.out.1
  rw [show (decAt (reset x q).s q).2 = 1 from (decAt_small x.s q H.out.2 (by omega) (by omega)).2.2] at hst2
  refine hst2.mono ?_
  rintro e w2 ⟨rfl, l2, g2⟩
  have f39 := l2.css.free 39
  obtain ⟨v39, k39⟩ := cell_any l2 39 (by omega)
  have H2 := Lib.hid (And.intro l2 (gb_trans H1.out.2 g2))
  clear hst2 l2 g2 e35 e36 e37 e38 e39 e40
  go_wp2_with fail
  go_end0
  exact tok_done H2.out.1 H2.out.2 8 (by have := (decAt_small x.s q H.out.2 (by omega) (by omega)).1; exact tokP_plain (by omega) this (by decide) (by decide))

set_option maxRecDepth 100000 in
set_option maxHeartbeats 8000000 in
theorem nx_obrack (p : Nat) (x : Lx) (b q : Nat) (w : World) (h : Lex w p x b q) (hc : (decAt x.s q).1 = 91) : Calls Tryd.prog 72 #[.pointer (some ⟨p, 0, none⟩)] w (Tok w p x b q) := by
  obtain ⟨c10, c33, c35, c36, c37⟩ := h.cells
  rw [hc] at c35
  obtain ⟨ln, hln⟩ : ∃ ln, q - x.st = ln := ⟨_, rfl⟩
  rw [hln] at c37
  have hst := h.hst
  have hq := h.hq
  have hsz := h.hsz
  have hp := h.lt
  have HE := Lib.hid (fun w => end_any x.st ln w (by omega))
  rw [show x.st + ln = q by omega] at HE
  have H := Lib.hid (And.intro h hc)
  clear h hc hln
  go_enter Tryd.func72, Tryd.ntmps72
  go_wp2_with fail
  refine wp_loop_rounds 1 ?_
  rw [rounds_succ]
  go_wp2_with fail
  refine (HE.out _).mono ?_
  rintro e w1 ⟨rfl, b1⟩
  have l1 := H.out.1.kept b1
  have g1 : w.grownBy w1 (some p) := gb_of_below _ b1
  have H1 := Lib.hid (And.intro (tok_reset l1) (tok_gb g1 q))
  have f := l1.css.free
  have f36 := f 36
  have f37 := f 37
  have f38 := f 38
  have f39 := f 39
  have f40 := f 40
  have hp1 := l1.lt
  obtain ⟨e0, e10, e17, e18, e19, e20, e21, e32, e33, y35, e36, e37, e38, e39, e40⟩ := l1.css.cells
  have e35 : w1.cell? ⟨p, 35, none⟩ = some (.int .i32 91) := y35.trans (by rw [show (x.at b q).cp = 91 from H.out.2])
  clear f b1 l1 g1 y35 c10 c33 c35 c36 c37 e0 e10 e17 e18 e19 e20 e21 e32 e33
  go_wp2_with fail
  have hst2 := lex_step p (reset x q) b q _ H1.out.1
  rw [show (decAt (reset x q).s q).2 = 1 from (decAt_small x.s q H.out.2 (by omega) (by omega)).2.2] at hst2
  refine hst2.mono ?_
  rintro e w2 ⟨rfl, l2, g2⟩
  have f39 := l2.css.free 39
  obtain ⟨v39, k39⟩ := cell_any l2 39 (by omega)
  have H2 := Lib.hid (And.intro l2 (gb_trans H1.out.2 g2))
  clear hst2 l2 g2 e35 e36 e37 e38 e39 e40
  go_wp2_with fail
  go_end0
  exact tok_done H2.out.1 H2.out.2 32 (by have := (decAt_small x.s q H.out.2 (by omega) (by omega)).1; exact tokP_plain (by omega) this (by decide) (by decide))

set_option maxRecDepth 100000 in
set_option maxHeartbeats 8000000 in
theorem nx_cbrack (p : Nat) (x : Lx) (b q : Nat) (w : World) (h : Lex w p x b q) (hc : (decAt x.s q).1 = 93) : Calls Tryd.prog 72 #[.pointer (some ⟨p, 0, none⟩)] w (Tok w p x b q) := by
  obtain ⟨c10, c33, c35, c36, c37⟩ := h.cells
  rw [hc] at c35
  obtain ⟨ln, hln⟩ : ∃ ln, q - x.st = ln := ⟨_, rfl⟩
  rw [hln] at c37
  have hst := h.hst
  have hq := h.hq
  have hsz := h.hsz
  have hp := h.lt
  have HE := Lib.hid (fun w => end_any x.st ln w (by omega))
  rw [show x.st + ln = q by omega] at HE
  have H := Lib.hid (And.intro h hc)
  clear h hc hln
  go_enter Tryd.func72, Tryd.ntmps72
  go_wp2_with fail
  refine wp_loop_rounds 1 ?_
  rw [rounds_succ]
  go_wp2_with fail
  refine (HE.out _).mono ?_
  rintro e w1 ⟨rfl, b1⟩
  have l1 := H.out.1.kept b1
  have g1 : w.grownBy w1 (some p) := gb_of_below _ b1
  have H1 := Lib.hid (And.intro (tok_reset l1) (tok_gb g1 q))
  have f := l1.css.free
  have f36 := f 36
  have f37 := f 37
  have f38 := f 38
  have f39 := f 39
  have f40 := f 40
  have hp1 := l1.lt
  obtain ⟨e0, e10, e17, e18, e19, e20, e21, e32, e33, y35, e36, e37, e38, e39, e40⟩ := l1.css.cells
  have e35 : w1.cell? ⟨p, 35, none⟩ = some (.int .i32 93) := y35.trans (by rw [show (x.at b q).cp = 93 from H.out.2])
  clear f b1 l1 g1 y35 c10 c33 c35 c36 c37 e0 e10 e17 e18 e19 e20 e21 e32 e33
  go_wp2_with fail
  have hst2 := lex_step p (reset x q) b q _ H1.out.1
  rw [show (decAt (reset x q).s q).2 = 1 from (decAt_small x.s q H.out.2 (by omega) (by omega)).2.2] at hst2
  refine hst2.mono ?_
  rintro e w2 ⟨rfl, l2, g2⟩
  have f39 := l2.css.free 39
  obtain ⟨v39, k39⟩ := cell_any l2 39 (by omega)
  have H2 := Lib.hid (And.intro l2 (gb_trans H1.out.2 g2))
  clear hst2 l2 g2 e35 e36 e37 e38 e39 e40
  go_wp2_with fail
  go_end0
  exact tok_done H2.out.1 H2.out.2 7 (by have := (decAt_small x.s q H.out.2 (by omega) (by omega)).1; exact tokP_plain (by omega) this (by decide) (by decide))

set_option maxRecDepth 100000 in
set_option maxHeartbeats 8000000 in
theorem nx_obrace (p : Nat) (x : Lx) (b q : Nat) (w : World) (h : Lex w p x b q) (hc : (decAt x.s q).1 = 123) : Calls Tryd.prog 72 #[.pointer (some ⟨p, 0, none⟩)] w (Tok w p x b q) := by
  obtain ⟨c10, c33, c35, c36, c37⟩ := h.cells
  rw [hc] at c35
  obtain ⟨ln, hln⟩ : ∃ ln, q - x.st = ln := ⟨_, rfl⟩
  rw [hln] at c37
  have hst := h.hst
  have hq := h.hq
  have hsz := h.hsz
  have hp := h.lt
  have HE := Lib.hid (fun w => end_any x.st ln w (by omega))
  rw [show x.st + ln = q by omega] at HE
  have H := Lib.hid (And.intro h hc)
  clear h hc hln
  go_enter Tryd.func72, Tryd.ntmps72
  go_wp2_with fail
  refine wp_loop_rounds 1 ?_
  rw [rounds_succ]
  go_wp2_with fail
  refine (HE.out _).mono ?_
  rintro e w1 ⟨rfl, b1⟩
  have l1 := H.out.1.kept b1
  have g1 : w.grownBy w1 (some p) := gb_of_below _ b1
  have H1 := Lib.hid (And.intro (tok_reset l1) (tok_gb g1 q))
  have f := l1.css.free
  have f36 := f 36
  have f37 := f 37
  have f38 := f 38
  have f39 := f 39
  have f40 := f 40
  have hp1 := l1.lt
  obtain ⟨e0, e10, e17, e18, e19, e20, e21, e32, e33, y35, e36, e37, e38, e39, e40⟩ := l1.css.cells
  have e35 : w1.cell? ⟨p, 35, none⟩ = some (.int .i32 123) := y35.trans (by rw [show (x.at b q).cp = 123 from H.out.2])
  clear f b1 l1 g1 y35 c10 c33 c35 c36 c37 e0 e10 e17 e18 e19 e20 e21 e32 e33
  go_wp2_with fail
  have hst2 := lex_step p (reset x q) b q _ H1.out.1
  rw [show (decAt (reset x q).s q).2 = 1 from (decAt_small x.s q H.out.2 (by omega) (by omega)).2.2] at hst2
  refine hst2.mono ?_
  rintro e w2 ⟨rfl, l2, g2⟩
  have f39 := l2.css.free 39
  obtain ⟨v39, k39⟩ := cell_any l2 39 (by omega)
  have H2 := Lib.hid (And.intro l2 (gb_trans H1.out.2 g2))
  clear hst2 l2 g2 e35 e36 e37 e38 e39 e40
  go_wp2_with fail
  go_end0
  exact tok_done H2.out.1 H2.out.2 31 (by have := (decAt_small x.s q H.out.2 (by omega) (by omega)).1; exact tokP_plain (by omega) this (by decide) (by decide))

set_option maxRecDepth 100000 in
set_option maxHeartbeats 8000000 in
theorem nx_cbrace (p : Nat) (x : Lx) (b q : Nat) (w : World) (h : Lex w p x b q) (hc : (decAt x.s q).1 = 125) : Calls Tryd.prog 72 #[.pointer (some ⟨p, 0, none⟩)] w (Tok w p x b q) := by
  obtain ⟨c10, c33, c35, c36, c37⟩ := h.cells
  rw [hc] at c35
  obtain ⟨ln, hln⟩ : ∃ ln, q - x.st = ln := ⟨_, rfl⟩
  rw [hln] at c37
  have hst := h.hst
  have hq := h.hq
  have hsz := h.hsz
  have hp := h.lt
  have HE := Lib.hid (fun w => end_any x.st ln w (by omega))
  rw [show x.st + ln = q by omega] at HE
  have H := Lib.hid (And.intro h hc)
  clear h hc hln
  go_enter Tryd.func72, Tryd.ntmps72
  go_wp2_with fail
  refine wp_loop_rounds 1 ?_
  rw [rounds_succ]
  go_wp2_with fail
  refine (HE.out _).mono ?_
  rintro e w1 ⟨rfl, b1⟩
  have l1 := H.out.1.kept b1
  have g1 : w.grownBy w1 (some p) := gb_of_below _ b1
  have H1 := Lib.hid (And.intro (tok_reset l1) (tok_gb g1 q))
  have f := l1.css.free
  have f36 := f 36
  have f37 := f 37
  have f38 := f 38
  have f39 := f 39
  have f40 := f 40
  have hp1 := l1.lt
  obtain ⟨e0, e10, e17, e18, e19, e20, e21, e32, e33, y35, e36, e37, e38, e39, e40⟩ := l1.css.cells
  have e35 : w1.cell? ⟨p, 35, none⟩ = some (.int .i32 125) := y35.trans (by rw [show (x.at b q).cp = 125 from H.out.2])
  clear f b1 l1 g1 y35 c10 c33 c35 c36 c37 e0 e10 e17 e18 e19 e20 e21 e32 e33
  go_wp2_with fail
  have hst2 := lex_step p (reset x q) b q _ H1.out.1
  rw [show (decAt (reset x q).s q).2 = 1 from (decAt_small x.s q H.out.2 (by omega) (by omega)).2.2] at hst2
  refine hst2.mono ?_
  rintro e w2 ⟨rfl, l2, g2⟩
  have f39 := l2.css.free 39
  obtain ⟨v39, k39⟩ := cell_any l2 39 (by omega)
  have H2 := Lib.hid (And.intro l2 (gb_trans H1.out.2 g2))
  clear hst2 l2 g2 e35 e36 e37 e38 e39 e40
  go_wp2_with fail
  go_end0
  exact tok_done H2.out.1 H2.out.2 6 (by have := (decAt_small x.s q H.out.2 (by omega) (by omega)).1; exact tokP_plain (by omega) this (by decide) (by decide))

set_option maxRecDepth 100000 in
set_option maxHeartbeats 8000000 in
theorem nx_comma (p : Nat) (x : Lx) (b q : Nat) (w : World) (h : Lex w p x b q) (hc : (decAt x.s q).1 = 44) : Calls Tryd.prog 72 #[.pointer (some ⟨p, 0, none⟩)] w (Tok w p x b q) := by
  obtain ⟨c10, c33, c35, c36, c37⟩ := h.cells
  rw [hc] at c35
  obtain ⟨ln, hln⟩ : ∃ ln, q - x.st = ln := ⟨_, rfl⟩
  rw [hln] at c37
  have hst := h.hst
  have hq := h.hq
  have hsz := h.hsz
  have hp := h.lt
  have HE := Lib.hid (fun w => end_any x.st ln w (by omega))
  rw [show x.st + ln = q by omega] at HE
  have H := Lib.hid (And.intro h hc)
  clear h hc hln
  go_enter Tryd.func72, Tryd.ntmps72
  go_wp2_with fail
  refine wp_loop_rounds 1 ?_
  rw [rounds_succ]
  go_wp2_with fail
  refine (HE.out _).mono ?_
  rintro e w1 ⟨rfl, b1⟩
  have l1 := H.out.1.kept b1
  have g1 : w.grownBy w1 (some p) := gb_of_below _ b1
  have H1 := Lib.hid (And.intro (tok_reset l1) (tok_gb g1 q))
  have f := l1.css.free
  have f36 := f 36
  have f37 := f 37
  have f38 := f 38
  have f39 := f 39
  have f40 := f 40
  have hp1 := l1.lt
  obtain ⟨e0, e10, e17, e18, e19, e20, e21, e32, e33, y35, e36, e37, e38, e39, e40⟩ := l1.css.cells
  have e35 : w1.cell? ⟨p, 35, none⟩ = some (.int .i32 44) := y35.trans (by rw [show (x.at b q).cp = 44 from H.out.2])
  clear f b1 l1 g1 y35 c10 c33 c35 c36 c37 e0 e10 e17 e18 e19 e20 e21 e32 e33
  go_wp2_with fail
  have hst2 := lex_step p (reset x q) b q _ H1.out.1
  rw [show (decAt (reset x q).s q).2 = 1 from (decAt_small x.s q H.out.2 (by omega) (by omega)).2.2] at hst2
  refine hst2.mono ?_
  rintro e w2 ⟨rfl, l2, g2⟩
  have f39 := l2.css.free 39
  obtain ⟨v39, k39⟩ := cell_any l2 39 (by omega)
  have H2 := Lib.hid (And.intro l2 (gb_trans H1.out.2 g2))
  clear hst2 l2 g2 e35 e36 e37 e38 e39 e40
  go_wp2_with fail
  go_end0
  exact tok_done H2.out.1 H2.out.2 10 (by have := (decAt_small x.s q H.out.2 (by omega) (by omega)).1; exact tokP_plain (by omega) this (by decide) (by decide))

set_option maxRecDepth 100000 in
set_option maxHeartbeats 8000000 in
theorem nx_colon (p : Nat) (x : Lx) (b q : Nat) (w : World) (h : Lex w p x b q) (hc : (decAt x.s q).1 = 58) : Calls Tryd.prog 72 #[.pointer (some ⟨p, 0, none⟩)] w (Tok w p x b q) := by
  obtain ⟨c10, c33, c35, c36, c37⟩ := h.cells
  rw [hc] at c35
  obtain ⟨ln, hln⟩ : ∃ ln, q - x.st = ln := ⟨_, rfl⟩
  rw [hln] at c37
  have hst := h.hst
  have hq := h.hq
  have hsz := h.hsz
  have hp := h.lt
  have HE := Lib.hid (fun w => end_any x.st ln w (by omega))
  rw [show x.st + ln = q by omega] at HE
  have H := Lib.hid (And.intro h hc)
  clear h hc hln
  go_enter Tryd.func72, Tryd.ntmps72
  go_wp2_with fail
  refine wp_loop_rounds 1 ?_
  rw [rounds_succ]
  go_wp2_with fail
  refine (HE.out _).mono ?_
  rintro e w1 ⟨rfl, b1⟩
  have l1 := H.out.1.kept b1
  have g1 : w.grownBy w1 (some p) := gb_of_below _ b1
  have H1 := Lib.hid (And.intro (tok_reset l1) (tok_gb g1 q))
  have f := l1.css.free
  have f36 := f 36
  have f37 := f 37
  have f38 := f 38
  have f39 := f 39
  have f40 := f 40
  have hp1 := l1.lt
  obtain ⟨e0, e10, e17, e18, e19, e20, e21, e32, e33, y35, e36, e37, e38, e39, e40⟩ := l1.css.cells
  have e35 : w1.cell? ⟨p, 35, none⟩ = some (.int .i32 58) := y35.trans (by rw [show (x.at b q).cp = 58 from H.out.2])
  clear f b1 l1 g1 y35 c10 c33 c35 c36 c37 e0 e10 e17 e18 e19 e20 e21 e32 e33
  go_wp2_with fail
  have hst2 := lex_step p (reset x q) b q _ H1.out.1
  rw [show (decAt (reset x q).s q).2 = 1 from (decAt_small x.s q H.out.2 (by omega) (by omega)).2.2] at hst2
  refine hst2.mono ?_
  rintro e w2 ⟨rfl, l2, g2⟩
  have f39 := l2.css.free 39
  obtain ⟨v39, k39⟩ := cell_any l2 39 (by omega)
  have H2 := Lib.hid (And.intro l2 (gb_trans H1.out.2 g2))
  clear hst2 l2 g2 e35 e36 e37 e38 e39 e40
  go_wp2_with fail
  go_end0
  exact tok_done H2.out.1 H2.out.2 9 (by have := (decAt_small x.s q H.out.2 (by omega) (by omega)).1; exact tokP_plain (by omega) this (by decide) (by decide))

set_option maxRecDepth 100000 in
set_option maxHeartbeats 8000000 in
theorem nx_semi (p : Nat) (x : Lx) (b q : Nat) (w : World) (h : Lex w p x b q) (hc : (decAt x.s q).1 = 59) : Calls Tryd.prog 72 #[.pointer (some ⟨p, 0, none⟩)] w (Tok w p x b q) := by
  obtain ⟨c10, c33, c35, c36, c37⟩ := h.cells
  rw [hc] at c35
  obtain ⟨ln, hln⟩ : ∃ ln, q - x.st = ln := ⟨_, rfl⟩
  rw [hln] at c37
  have hst := h.hst
  have hq := h.hq
  have hsz := h.hsz
  have hp := h.lt
  have HE := Lib.hid (fun w => end_any x.st ln w (by omega))
  rw [show x.st + ln = q by omega] at HE
  have H := Lib.hid (And.intro h hc)
  clear h hc hln
  go_enter Tryd.func72, Tryd.ntmps72
  go_wp2_with fail
  refine wp_loop_rounds 1 ?_
  rw [rounds_succ]
  go_wp2_with fail
  refine (HE.out _).mono ?_
  rintro e w1 ⟨rfl, b1⟩
  have l1 := H.out.1.kept b1
  have g1 : w.grownBy w1 (some p) := gb_of_below _ b1
  have H1 := Lib.hid (And.intro (tok_reset l1) (tok_gb g1 q))
  have f := l1.css.free
  have f36 := f 36
  have f37 := f 37
  have f38 := f 38
  have f39 := f 39
  have f40 := f 40
  have hp1 := l1.lt
  obtain ⟨e0, e10, e17, e18, e19, e20, e21, e32, e33, y35, e36, e37, e38, e39, e40⟩ := l1.css.cells
  have e35 : w1.cell? ⟨p, 35, none⟩ = some (.int .i32 59) := y35.trans (by rw [show (x.at b q).cp = 59 from H.out.2])
  clear f b1 l1 g1 y35 c10 c33 c35 c36 c37 e0 e10 e17 e18 e19 e20 e21 e32 e33
  go_wp2_with fail
  have hst2 := lex_step p (reset x q) b q _ H1.out.1
  rw [show (decAt (reset x q).s q).2 = 1 from (decAt_small x.s q H.out.2 (by omega) (by omega)).2.2] at hst2
  refine hst2.mono ?_
  rintro e w2 ⟨rfl, l2, g2⟩
  have f39 := l2.css.free 39
  obtain ⟨v39, k39⟩ := cell_any l2 39 (by omega)
  have H2 := Lib.hid (And.intro l2 (gb_trans H1.out.2 g2))
  clear hst2 l2 g2 e35 e36 e37 e38 e39 e40
  go_wp2_with fail
  go_end0
  exact tok_done H2.out.1 H2.out.2 35 (by have := (decAt_small x.s q H.out.2 (by omega) (by omega)).1; exact tokP_plain (by omega) this (by decide) (by decide))

set_option maxRecDepth 100000 in
set_option maxHeartbeats 8000000 in
theorem nx_gt (p : Nat) (x : Lx) (b q : Nat) (w : World) (h : Lex w p x b q) (hc : (decAt x.s q).1 = 62) : Calls Tryd.prog 72 #[.pointer (some ⟨p, 0, none⟩)] w (Tok w p x b q) := by
  obtain ⟨c10, c33, c35, c36, c37⟩ := h.cells
  rw [hc] at c35
  obtain ⟨ln, hln⟩ : ∃ ln, q - x.st = ln := ⟨_, rfl⟩
  rw [hln] at c37
  have hst := h.hst
  have hq := h.hq
  have hsz := h.hsz
  have hp := h.lt
  have HE := Lib.hid (fun w => end_any x.st ln w (by omega))
  rw [show x.st + ln = q by omega] at HE
  have H := Lib.hid (And.intro h hc)
  clear h hc hln
  go_enter Tryd.func72, Tryd.ntmps72
  go_wp2_with fail
  refine wp_loop_rounds 1 ?_
  rw [rounds_succ]
  go_wp2_with fail
  refine (HE.out _).mono ?_
  rintro e w1 ⟨rfl, b1⟩
  have l1 := H.out.1.kept b1
  have g1 : w.grownBy w1 (some p) := gb_of_below _ b1
  have H1 := Lib.hid (And.intro (tok_reset l1) (tok_gb g1 q))
  have f := l1.css.free
  have f36 := f 36
  have f37 := f 37
  have f38 := f 38
  have f39 := f 39
  have f40 := f 40
  have hp1 := l1.lt
  obtain ⟨e0, e10, e17, e18, e19, e20, e21, e32, e33, y35, e36, e37, e38, e39, e40⟩ := l1.css.cells
  have e35 : w1.cell? ⟨p, 35, none⟩ = some (.int .i32 62) := y35.trans (by rw [show (x.at b q).cp = 62 from H.out.2])
  clear f b1 l1 g1 y35 c10 c33 c35 c36 c37 e0 e10 e17 e18 e19 e20 e21 e32 e33
  go_wp2_with fail
  have hst2 := lex_step p (reset x q) b q _ H1.out.1
  rw [show (decAt (reset x q).s q).2 = 1 from (decAt_small x.s q H.out.2 (by omega) (by omega)).2.2] at hst2
  refine hst2.mono ?_
  rintro e w2 ⟨rfl, l2, g2⟩
  have f39 := l2.css.free 39
  obtain ⟨v39, k39⟩ := cell_any l2 39 (by omega)
  have H2 := Lib.hid (And.intro l2 (gb_trans H1.out.2 g2))
  clear hst2 l2 g2 e35 e36 e37 e38 e39 e40
  go_wp2_with fail
  go_end0
  exact tok_done H2.out.1 H2.out.2 20 (by have := (decAt_small x.s q H.out.2 (by omega) (by omega)).1; exact tokP_plain (by omega) this (by decide) (by decide))

set_option maxRecDepth 100000 in
set_option maxHeartbeats 8000000 in
theorem nx_tilde (p : Nat) (x : Lx) (b q : Nat) (w : World) (h : Lex w p x b q) (hc : (decAt x.s q).1 = 126) : Calls Tryd.prog 72 #[.pointer (some ⟨p, 0, none⟩)] w (Tok w p x b q) := by
  obtain ⟨c10, c33, c35, c36, c37⟩ := h.cells
  rw [hc] at c35
  obtain ⟨ln, hln⟩ : ∃ ln, q - x.st = ln := ⟨_, rfl⟩
  rw [hln] at c37
  have hst := h.hst
  have hq := h.hq
  have hsz := h.hsz
  have hp := h.lt
  have HE := Lib.hid (fun w => end_any x.st ln w (by omega))
  rw [show x.st + ln = q by omega] at HE
  have H := Lib.hid (And.intro h hc)
  clear h hc hln
  go_enter Tryd.func72, Tryd.ntmps72
  go_wp2_with fail
  refine wp_loop_rounds 1 ?_
  rw [rounds_succ]
  go_wp2_with fail
  refine (HE.out _).mono ?_
  rintro e w1 ⟨rfl, b1⟩
  have l1 := H.out.1.kept b1
  have g1 : w.grownBy w1 (some p) := gb_of_below _ b1
  have H1 := Lib.hid (And.intro (tok_reset l1) (tok_gb g1 q))
  have f := l1.css.free
  have f36 := f 36
  have f37 := f 37
  have f38 := f 38
  have f39 := f 39
  have f40 := f 40
  have hp1 := l1.lt
  obtain ⟨e0, e10, e17, e18, e19, e20, e21, e32, e33, y35, e36, e37, e38, e39, e40⟩ := l1.css.cells
  have e35 : w1.cell? ⟨p, 35, none⟩ = some (.int .i32 126) := y35.trans (by rw [show (x.at b q).cp = 126 from H.out.2])
  clear f b1 l1 g1 y35 c10 c33 c35 c36 c37 e0 e10 e17 e18 e19 e20 e21 e32 e33
  go_wp2_with fail
  have hst2 := lex_step p (reset x q) b q _ H1.out.1
  rw [show (decAt (reset x q).s q).2 = 1 from (decAt_small x.s q H.out.2 (by omega) (by omega)).2.2] at hst2
  refine hst2.mono ?_
  rintro e w2 ⟨rfl, l2, g2⟩
  have f39 := l2.css.free 39
  obtain ⟨v39, k39⟩ := cell_any l2 39 (by omega)
  have H2 := Lib.hid (And.intro l2 (gb_trans H1.out.2 g2))
  clear hst2 l2 g2 e35 e36 e37 e38 e39 e40
  go_wp2_with fail
  go_end0
  exact tok_done H2.out.1 H2.out.2 25 (by have := (decAt_small x.s q H.out.2 (by omega) (by omega)).1; exact tokP_plain (by omega) this (by decide) (by decide))

set_option maxRecDepth 100000 in
set_option maxHeartbeats 8000000 in
theorem nx_amp (p : Nat) (x : Lx) (b q : Nat) (w : World) (h : Lex w p x b q) (hc : (decAt x.s q).1 = 38) : Calls Tryd.prog 72 #[.pointer (some ⟨p, 0, none⟩)] w (Tok w p x b q) := by
  obtain ⟨c10, c33, c35, c36, c37⟩ := h.cells
  rw [hc] at c35
  obtain ⟨ln, hln⟩ : ∃ ln, q - x.st = ln := ⟨_, rfl⟩
  rw [hln] at c37
  have hst := h.hst
  have hq := h.hq
  have hsz := h.hsz
  have hp := h.lt
  have HE := Lib.hid (fun w => end_any x.st ln w (by omega))
  rw [show x.st + ln = q by omega] at HE
  have H := Lib.hid (And.intro h hc)
  clear h hc hln
  go_enter Tryd.func72, Tryd.ntmps72
  go_wp2_with fail
  refine wp_loop_rounds 1 ?_
  rw [rounds_succ]
  go_wp2_with fail
  refine (HE.out _).mono ?_
  rintro e w1 ⟨rfl, b1⟩
  have l1 := H.out.1.kept b1
  have g1 : w.grownBy w1 (some p) := gb_of_below _ b1
  have H1 := Lib.hid (And.intro (tok_reset l1) (tok_gb g1 q))
  have f := l1.css.free
  have f36 := f 36
  have f37 := f 37
  have f38 := f 38
  have f39 := f 39
  have f40 := f 40
  have hp1 := l1.lt
  obtain ⟨e0, e10, e17, e18, e19, e20, e21, e32, e33, y35, e36, e37, e38, e39, e40⟩ := l1.css.cells
  have e35 : w1.cell? ⟨p, 35, none⟩ = some (.int .i32 38) := y35.trans (by rw [show (x.at b q).cp = 38 from H.out.2])
  clear f b1 l1 g1 y35 c10 c33 c35 c36 c37 e0 e10 e17 e18 e19 e20 e21 e32 e33
  go_wp2_with fail
  have hst2 := lex_step p (reset x q) b q _ H1.out.1
  rw [show (decAt (reset x q).s q).2 = 1 from (decAt_small x.s q H.out.2 (by omega) (by omega)).2.2] at hst2
  refine hst2.mono ?_
  rintro e w2 ⟨rfl, l2, g2⟩
  have f39 := l2.css.free 39
  obtain ⟨v39, k39⟩ := cell_any l2 39 (by omega)
  have H2 := Lib.hid (And.intro l2 (gb_trans H1.out.2 g2))
  clear hst2 l2 g2 e35 e36 e37 e38 e39 e40
  go_wp2_with fail
  go_end0
  exact tok_done H2.out.1 H2.out.2 12 (by have := (decAt_small x.s q H.out.2 (by omega) (by omega)).1; exact tokP_plain (by omega) this (by decide) (by decide))

set_option maxRecDepth 100000 in
set_option maxHeartbeats 8000000 in
theorem nx_star (p : Nat) (x : Lx) (b q : Nat) (w : World) (h : Lex w p x b q) (hc : (decAt x.s q).1 = 42) : Calls Tryd.prog 72 #[.pointer (some ⟨p, 0, none⟩)] w (Tok w p x b q) := by
  obtain ⟨c10, c33, c35, c36, c37⟩ := h.cells
  rw [hc] at c35
  obtain ⟨ln, hln⟩ : ∃ ln, q - x.st = ln := ⟨_, rfl⟩
  rw [hln] at c37
  have hst := h.hst
  have hq := h.hq
  have hsz := h.hsz
  have hp := h.lt
  have HE := Lib.hid (fun w => end_any x.st ln w (by omega))
  rw [show x.st + ln = q by omega] at HE
  have H := Lib.hid (And.intro h hc)
  clear h hc hln
  go_enter Tryd.func72, Tryd.ntmps72
  go_wp2_with fail
  refine wp_loop_rounds 1 ?_
  rw [rounds_succ]
  go_wp2_with fail
  refine (HE.out _).mono ?_
  rintro e w1 ⟨rfl, b1⟩
  have l1 := H.out.1.kept b1
  have g1 : w.grownBy w1 (some p) := gb_of_below _ b1
  have H1 := Lib.hid (And.intro (tok_reset l1) (tok_gb g1 q))
  have f := l1.css.free
  have f36 := f 36
  have f37 := f 37
  have f38 := f 38
  have f39 := f 39
  have f40 := f 40
  have hp1 := l1.lt
  obtain ⟨e0, e10, e17, e18, e19, e20, e21, e32, e33, y35, e36, e37, e38, e39, e40⟩ := l1.css.cells
  have e35 : w1.cell? ⟨p, 35, none⟩ = some (.int .i32 42) := y35.trans (by rw [show (x.at b q).cp = 42 from H.out.2])
  clear f b1 l1 g1 y35 c10 c33 c35 c36 c37 e0 e10 e17 e18 e19 e20 e21 e32 e33
  go_wp2_with fail
  have hst2 := lex_step p (reset x q) b q _ H1.out.1
  rw [show (decAt (reset x q).s q).2 = 1 from (decAt_small x.s q H.out.2 (by omega) (by omega)).2.2] at hst2
  refine hst2.mono ?_
  rintro e w2 ⟨rfl, l2, g2⟩
  have f39 := l2.css.free 39
  obtain ⟨v39, k39⟩ := cell_any l2 39 (by omega)
  have H2 := Lib.hid (And.intro l2 (gb_trans H1.out.2 g2))
  clear hst2 l2 g2 e35 e36 e37 e38 e39 e40
  go_wp2_with fail
  go_end0
  exact tok_done H2.out.1 H2.out.2 13 (by have := (decAt_small x.s q H.out.2 (by omega) (by omega)).1; exact tokP_plain (by omega) this (by decide) (by decide))

set_option maxRecDepth 100000 in
set_option maxHeartbeats 8000000 in
theorem nx_bar (p : Nat) (x : Lx) (b q : Nat) (w : World) (h : Lex w p x b q) (hc : (decAt x.s q).1 = 124) : Calls Tryd.prog 72 #[.pointer (some ⟨p, 0, none⟩)] w (Tok w p x b q) := by
  obtain ⟨c10, c33, c35, c36, c37⟩ := h.cells
  rw [hc] at c35
  obtain ⟨ln, hln⟩ : ∃ ln, q - x.st = ln := ⟨_, rfl⟩
  rw [hln] at c37
  have hst := h.hst
  have hq := h.hq
  have hsz := h.hsz
  have hp := h.lt
  have HE := Lib.hid (fun w => end_any x.st ln w (by omega))
  rw [show x.st + ln = q by omega] at HE
  have H := Lib.hid (And.intro h hc)
  clear h hc hln
  go_enter Tryd.func72, Tryd.ntmps72
  go_wp2_with fail
  refine wp_loop_rounds 1 ?_
  rw [rounds_succ]
  go_wp2_with fail
  refine (HE.out _).mono ?_
  rintro e w1 ⟨rfl, b1⟩
  have l1 := H.out.1.kept b1
  have g1 : w.grownBy w1 (some p) := gb_of_below _ b1
  have H1 := Lib.hid (And.intro (tok_reset l1) (tok_gb g1 q))
  have f := l1.css.free
  have f36 := f 36
  have f37 := f 37
  have f38 := f 38
  have f39 := f 39
  have f40 := f 40
  have hp1 := l1.lt
  obtain ⟨e0, e10, e17, e18, e19, e20, e21, e32, e33, y35, e36, e37, e38, e39, e40⟩ := l1.css.cells
  have e35 : w1.cell? ⟨p, 35, none⟩ = some (.int .i32 124) := y35.trans (by rw [show (x.at b q).cp = 124 from H.out.2])
  clear f b1 l1 g1 y35 c10 c33 c35 c36 c37 e0 e10 e17 e18 e19 e20 e21 e32 e33
  go_wp2_with fail
  have hst2 := lex_step p (reset x q) b q _ H1.out.1
  rw [show (decAt (reset x q).s q).2 = 1 from (decAt_small x.s q H.out.2 (by omega) (by omega)).2.2] at hst2
  refine hst2.mono ?_
  rintro e w2 ⟨rfl, l2, g2⟩
  have f39 := l2.css.free 39
  obtain ⟨v39, k39⟩ := cell_any l2 39 (by omega)
  have H2 := Lib.hid (And.intro l2 (gb_trans H1.out.2 g2))
  clear hst2 l2 g2 e35 e36 e37 e38 e39 e40
  go_wp2_with fail
  go_end0
  exact tok_done H2.out.1 H2.out.2 14 (by have := (decAt_small x.s q H.out.2 (by omega) (by omega)).1; exact tokP_plain (by omega) this (by decide) (by decide))

set_option maxRecDepth 100000 in
set_option maxHeartbeats 8000000 in
theorem nx_bang (p : Nat) (x : Lx) (b q : Nat) (w : World) (h : Lex w p x b q) (hc : (decAt x.s q).1 = 33) : Calls Tryd.prog 72 #[.pointer (some ⟨p, 0, none⟩)] w (Tok w p x b q) := by
  obtain ⟨c10, c33, c35, c36, c37⟩ := h.cells
  rw [hc] at c35
  obtain ⟨ln, hln⟩ : ∃ ln, q - x.st = ln := ⟨_, rfl⟩
  rw [hln] at c37
  have hst := h.hst
  have hq := h.hq
  have hsz := h.hsz
  have hp := h.lt
  have HE := Lib.hid (fun w => end_any x.st ln w (by omega))
  rw [show x.st + ln = q by omega] at HE
  have H := Lib.hid (And.intro h hc)
  clear h hc hln
  go_enter Tryd.func72, Tryd.ntmps72
  go_wp2_with fail
  refine wp_loop_rounds 1 ?_
  rw [rounds_succ]
  go_wp2_with fail
  refine (HE.out _).mono ?_
  rintro e w1 ⟨rfl, b1⟩
  have l1 := H.out.1.kept b1
  have g1 : w.grownBy w1 (some p) := gb_of_below _ b1
  have H1 := Lib.hid (And.intro (tok_reset l1) (tok_gb g1 q))
  have f := l1.css.free
  have f36 := f 36
  have f37 := f 37
  have f38 := f 38
  have f39 := f 39
  have f40 := f 40
  have hp1 := l1.lt
  obtain ⟨e0, e10, e17, e18, e19, e20, e21, e32, e33, y35, e36, e37, e38, e39, e40⟩ := l1.css.cells
  have e35 : w1.cell? ⟨p, 35, none⟩ = some (.int .i32 33) := y35.trans (by rw [show (x.at b q).cp = 33 from H.out.2])
  clear f b1 l1 g1 y35 c10 c33 c35 c36 c37 e0 e10 e17 e18 e19 e20 e21 e32 e33
  go_wp2_with fail
  have hst2 := lex_step p (reset x q) b q _ H1.out.1
  rw [show (decAt (reset x q).s q).2 = 1 from (decAt_small x.s q H.out.2 (by omega) (by omega)).2.2] at hst2
  refine hst2.mono ?_
  rintro e w2 ⟨rfl, l2, g2⟩
  have f39 := l2.css.free 39
  obtain ⟨v39, k39⟩ := cell_any l2 39 (by omega)
  have H2 := Lib.hid (And.intro l2 (gb_trans H1.out.2 g2))
  clear hst2 l2 g2 e35 e36 e37 e38 e39 e40
  go_wp2_with fail
  go_end0
  exact tok_done H2.out.1 H2.out.2 19 (by have := (decAt_small x.s q H.out.2 (by omega) (by omega)).1; exact tokP_plain (by omega) this (by decide) (by decide))

set_option maxRecDepth 100000 in
set_option maxHeartbeats 8000000 in
theorem nx_eq (p : Nat) (x : Lx) (b q : Nat) (w : World) (h : Lex w p x b q) (hc : (decAt x.s q).1 = 61) : Calls Tryd.prog 72 #[.pointer (some ⟨p, 0, none⟩)] w (Tok w p x b q) := by
  obtain ⟨c10, c33, c35, c36, c37⟩ := h.cells
  rw [hc] at c35
  obtain ⟨ln, hln⟩ : ∃ ln, q - x.st = ln := ⟨_, rfl⟩
  rw [hln] at c37
  have hst := h.hst
  have hq := h.hq
  have hsz := h.hsz
  have hp := h.lt
  have HE := Lib.hid (fun w => end_any x.st ln w (by omega))
  rw [show x.st + ln = q by omega] at HE
  have H := Lib.hid (And.intro h hc)
  clear h hc hln
  go_enter Tryd.func72, Tryd.ntmps72
  go_wp2_with fail
  refine wp_loop_rounds 1 ?_
  rw [rounds_succ]
  go_wp2_with fail
  refine (HE.out _).mono ?_
  rintro e w1 ⟨rfl, b1⟩
  have l1 := H.out.1.kept b1
  have g1 : w.grownBy w1 (some p) := gb_of_below _ b1
  have H1 := Lib.hid (And.intro (tok_reset l1) (tok_gb g1 q))
  have f := l1.css.free
  have f36 := f 36
  have f37 := f 37
  have f38 := f 38
  have f39 := f 39
  have f40 := f 40
  have hp1 := l1.lt
  obtain ⟨e0, e10, e17, e18, e19, e20, e21, e32, e33, y35, e36, e37, e38, e39, e40⟩ := l1.css.cells
  have e35 : w1.cell? ⟨p, 35, none⟩ = some (.int .i32 61) := y35.trans (by rw [show (x.at b q).cp = 61 from H.out.2])
  clear f b1 l1 g1 y35 c10 c33 c35 c36 c37 e0 e10 e17 e18 e19 e20 e21 e32 e33
  go_wp2_with fail
  have hst2 := lex_step p (reset x q) b q _ H1.out.1
  rw [show (decAt (reset x q).s q).2 = 1 from (decAt_small x.s q H.out.2 (by omega) (by omega)).2.2] at hst2
  refine hst2.mono ?_
  rintro e w2 ⟨rfl, l2, g2⟩
  have f39 := l2.css.free 39
  obtain ⟨v39, k39⟩ := cell_any l2 39 (by omega)
  have H2 := Lib.hid (And.intro l2 (gb_trans H1.out.2 g2))
  clear hst2 l2 g2 e35 e36 e37 e38 e39 e40
  go_wp2_with fail
  go_end0
  exact tok_done H2.out.1 H2.out.2 18 (by have := (decAt_small x.s q H.out.2 (by omega) (by omega)).1; exact tokP_plain (by omega) this (by decide) (by decide))

set_option maxRecDepth 100000 in
set_option maxHeartbeats 8000000 in
theorem nx_caret (p : Nat) (x : Lx) (b q : Nat) (w : World) (h : Lex w p x b q) (hc : (decAt x.s q).1 = 94) : Calls Tryd.prog 72 #[.pointer (some ⟨p, 0, none⟩)] w (Tok w p x b q) := by
  obtain ⟨c10, c33, c35, c36, c37⟩ := h.cells
  rw [hc] at c35
  obtain ⟨ln, hln⟩ : ∃ ln, q - x.st = ln := ⟨_, rfl⟩
  rw [hln] at c37
  have hst := h.hst
  have hq := h.hq
  have hsz := h.hsz
  have hp := h.lt
  have HE := Lib.hid (fun w => end_any x.st ln w (by omega))
  rw [show x.st + ln = q by omega] at HE
  have H := Lib.hid (And.intro h hc)
  clear h hc hln
  go_enter Tryd.func72, Tryd.ntmps72
  go_wp2_with fail
  refine wp_loop_rounds 1 ?_
  rw [rounds_succ]
  go_wp2_with fail
  refine (HE.out _).mono ?_
  rintro e w1 ⟨rfl, b1⟩
  have l1 := H.out.1.kept b1
  have g1 : w.grownBy w1 (some p) := gb_of_below _ b1
  have H1 := Lib.hid (And.intro (tok_reset l1) (tok_gb g1 q))
  have f := l1.css.free
  have f36 := f 36
  have f37 := f 37
  have f38 := f 38
  have f39 := f 39
  have f40 := f 40
  have hp1 := l1.lt
  obtain ⟨e0, e10, e17, e18, e19, e20, e21, e32, e33, y35, e36, e37, e38, e39, e40⟩ := l1.css.cells
  have e35 : w1.cell? ⟨p, 35, none⟩ = some (.int .i32 94) := y35.trans (by rw [show (x.at b q).cp = 94 from H.out.2])
  clear f b1 l1 g1 y35 c10 c33 c35 c36 c37 e0 e10 e17 e18 e19 e20 e21 e32 e33
  go_wp2_with fail
  have hst2 := lex_step p (reset x q) b q _ H1.out.1
  rw [show (decAt (reset x q).s q).2 = 1 from (decAt_small x.s q H.out.2 (by omega) (by omega)).2.2] at hst2
  refine hst2.mono ?_
  rintro e w2 ⟨rfl, l2, g2⟩
  have f39 := l2.css.free 39
  obtain ⟨v39, k39⟩ := cell_any l2 39 (by omega)
  have H2 := Lib.hid (And.intro l2 (gb_trans H1.out.2 g2))
  clear hst2 l2 g2 e35 e36 e37 e38 e39 e40
  go_wp2_with fail
  go_end0
  exact tok_done H2.out.1 H2.out.2 15 (by have := (decAt_small x.s q H.out.2 (by omega) (by omega)).1; exact tokP_plain (by omega) this (by decide) (by decide))

set_option maxRecDepth 100000 in
set_option maxHeartbeats 8000000 in
theorem nx_dollar (p : Nat) (x : Lx) (b q : Nat) (w : World) (h : Lex w p x b q) (hc : (decAt x.s q).1 = 36) : Calls Tryd.prog 72 #[.pointer (some ⟨p, 0, none⟩)] w (Tok w p x b q) := by
  obtain ⟨c10, c33, c35, c36, c37⟩ := h.cells
  rw [hc] at c35
  obtain ⟨ln, hln⟩ : ∃ ln, q - x.st = ln := ⟨_, rfl⟩
  rw [hln] at c37
  have hst := h.hst
  have hq := h.hq
  have hsz := h.hsz
  have hp := h.lt
  have HE := Lib.hid (fun w => end_any x.st ln w (by omega))
  rw [show x.st + ln = q by omega] at HE
  have H := Lib.hid (And.intro h hc)
  clear h hc hln
  go_enter Tryd.func72, Tryd.ntmps72
  go_wp2_with fail
  refine wp_loop_rounds 1 ?_
  rw [rounds_succ]
  go_wp2_with fail
  refine (HE.out _).mono ?_
  rintro e w1 ⟨rfl, b1⟩
  have l1 := H.out.1.kept b1
  have g1 : w.grownBy w1 (some p) := gb_of_below _ b1
  have H1 := Lib.hid (And.intro (tok_reset l1) (tok_gb g1 q))
  have f := l1.css.free
  have f36 := f 36
  have f37 := f 37
  have f38 := f 38
  have f39 := f 39
  have f40 := f 40
  have hp1 := l1.lt
  obtain ⟨e0, e10, e17, e18, e19, e20, e21, e32, e33, y35, e36, e37, e38, e39, e40⟩ := l1.css.cells
  have e35 : w1.cell? ⟨p, 35, none⟩ = some (.int .i32 36) := y35.trans (by rw [show (x.at b q).cp = 36 from H.out.2])
  clear f b1 l1 g1 y35 c10 c33 c35 c36 c37 e0 e10 e17 e18 e19 e20 e21 e32 e33
  go_wp2_with fail
  have hst2 := lex_step p (reset x q) b q _ H1.out.1
  rw [show (decAt (reset x q).s q).2 = 1 from (decAt_small x.s q H.out.2 (by omega) (by omega)).2.2] at hst2
  refine hst2.mono ?_
  rintro e w2 ⟨rfl, l2, g2⟩
  have f39 := l2.css.free 39
  obtain ⟨v39, k39⟩ := cell_any l2 39 (by omega)
  have H2 := Lib.hid (And.intro l2 (gb_trans H1.out.2 g2))
  clear hst2 l2 g2 e35 e36 e37 e38 e39 e40
  go_wp2_with fail
  go_end0
  exact tok_done H2.out.1 H2.out.2 16 (by have := (decAt_small x.s q H.out.2 (by omega) (by omega)).1; exact tokP_plain (by omega) this (by decide) (by decide))

end Go.Proofs.YtlbpplkanogkgaaDoor
