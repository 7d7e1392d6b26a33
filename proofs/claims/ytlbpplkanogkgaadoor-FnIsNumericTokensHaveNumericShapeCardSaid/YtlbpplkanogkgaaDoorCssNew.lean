/-
  A fresh css lexer, and the exports that read its fields. No statement of the seat is proved here.
-/
import Derived.Test.YtlbpplkanogkgaaDoorCssStep
namespace Go.Proofs.YtlbpplkanogkgaaDoor
open Go.RowKit
set_option linter.unusedVariables false
noncomputable def cSrc (s : ByteArray) : Array Value := cellsOf ((Instr.build 47 #[(2, .string s)]).run Tryd.prog default)
noncomputable def cNew (s : ByteArray) (r : Bool) : Array Value := cellsOf ((Instr.build 93 #[(0, .agg #[.bool r]), (2, .agg (cSrc s))]).run Tryd.prog default)
theorem cBuild47 (s : ByteArray) (w : World) : (Instr.build 47 #[(2, .string s)]).run Tryd.prog w = .ok (.agg (cSrc s)) w := by kernel_rfl
theorem cBuild93 (s : ByteArray) (r : Bool) (w : World) : (Instr.build 93 #[(0, .agg #[.bool r]), (2, .agg (cSrc s))]).run Tryd.prog w = .ok (.agg (cNew s r)) w := by kernel_rfl
theorem cBuild93' (s : ByteArray) (w : World) : (Instr.build 93 #[(2, .agg (cSrc s))]).run Tryd.prog w = .ok (.agg (cNew s false)) w := by kernel_rfl
/-- a lexer before its first step -/
def fresh (s : ByteArray) (r : Bool) : Lx := { ra := r, s := s, al := .slice none 0 0, lg := .slice none 0 0, mt := ByteArray.empty, ms := 0, ml := 0, nl := 0, cur := 0, cp := 0, st := 0, ln := 0, un := 0, kd := 0, fl := 0 }
theorem css_of_new (s : ByteArray) (r : Bool) {w : World} {p : Nat} (h : Blk w p 93 (cNew s r)) : Css w p (fresh s r) :=
  ⟨_, h, by kernel_rfl, by kernel_rfl, by kernel_rfl, by kernel_rfl, by kernel_rfl, by kernel_rfl, by kernel_rfl, by kernel_rfl, by kernel_rfl, by kernel_rfl, by kernel_rfl, by kernel_rfl, by kernel_rfl, by kernel_rfl, by kernel_rfl, by kernel_rfl⟩
def IsNew (w : World) (s : ByteArray) (b : Bool) (r : Ending) (w' : World) : Prop := ∃ p, r = .returned (.pointer (some ⟨p, 0, none⟩)) ∧ Css w' p (fresh s b) ∧ w.heap.size ≤ p ∧ Below w.heap.size w w'
theorem css_new111 (s : ByteArray) (b : Bool) (w : World) : Calls Tryd.prog 18 #[.string s, .bool b] w (IsNew w s b) := by
  go_enter Tryd.func18, Tryd.ntmps18
  go_wp2_with (first | (refine wpList_build rfl 47 _ rfl [(2, .string s)] rfl (cSrc s) (cBuild47 s) ?_) | (refine wpList_build rfl 93 _ rfl [(0, .agg #[.bool b]), (2, .agg (cSrc s))] rfl (cNew s b) (cBuild93 s b) ?_))
  go_ret
  exact ⟨_, rfl, css_of_new s b (Blk.new _ _ _), Nat.le_refl _, (Below.refl _ _).alloc (Nat.le_refl _) _⟩
theorem css_new170 (s : ByteArray) (w : World) : Calls Tryd.prog 26 #[.string s] w (IsNew w s false) := by
  go_enter Tryd.func26, Tryd.ntmps26
  go_wp2_with (first | (refine wpList_build rfl 47 _ rfl [(2, .string s)] rfl (cSrc s) (cBuild47 s) ?_) | (refine wpList_build rfl 93 _ rfl [(2, .agg (cSrc s))] rfl (cNew s false) (cBuild93' s) ?_))
  go_ret
  exact ⟨_, rfl, css_of_new s false (Blk.new _ _ _), Nat.le_refl _, (Below.refl _ _).alloc (Nat.le_refl _) _⟩
theorem css_cp (p : Nat) (x : Lx) (w : World) (h : Css w p x) : Calls Tryd.prog 21 #[.pointer (some ⟨p, 0, none⟩)] w fun r w' => r = .returned (.int .i32 x.cp) ∧ w' = w := by
  obtain ⟨c0, c10, c17, c18, c19, c20, c21, c32, c33, c35, c36, c37, c38, c39, c40⟩ := h.cells
  go_enter Tryd.func21, Tryd.ntmps21
  go_wp2
  go_ret
  exact ⟨rfl, rfl⟩
theorem css_cur (p : Nat) (x : Lx) (w : World) (h : Css w p x) : Calls Tryd.prog 22 #[.pointer (some ⟨p, 0, none⟩)] w fun r w' => r = .returned (.int .i64 x.cur) ∧ w' = w := by
  obtain ⟨c0, c10, c17, c18, c19, c20, c21, c32, c33, c35, c36, c37, c38, c39, c40⟩ := h.cells
  go_enter Tryd.func22, Tryd.ntmps22
  go_wp2
  go_ret
  exact ⟨rfl, rfl⟩
theorem css_nl (p : Nat) (x : Lx) (w : World) (h : Css w p x) : Calls Tryd.prog 24 #[.pointer (some ⟨p, 0, none⟩)] w fun r w' => r = .returned (.int .i64 x.nl) ∧ w' = w := by
  obtain ⟨c0, c10, c17, c18, c19, c20, c21, c32, c33, c35, c36, c37, c38, c39, c40⟩ := h.cells
  go_enter Tryd.func24, Tryd.ntmps24
  go_wp2
  go_ret
  exact ⟨rfl, rfl⟩
theorem css_tok (p : Nat) (x : Lx) (w : World) (h : Css w p x) : Calls Tryd.prog 23 #[.pointer (some ⟨p, 0, none⟩)] w fun r w' => r = .returned (.agg #[.int .i32 x.st, .int .i32 x.ln, .int .u16 x.un, .int .u8 x.kd, .int .u8 x.fl]) ∧ Below w.heap.size w w' := by
  have hp := h.lt
  obtain ⟨c0, c10, c17, c18, c19, c20, c21, c32, c33, c35, c36, c37, c38, c39, c40⟩ := h.cells
  go_enter Tryd.func23, Tryd.ntmps23
  go_wp2
  refine bodyPost_ret (v := .agg #[.int .i32 x.st, .int .i32 x.ln, .int .u16 x.un, .int .u8 x.kd, .int .u8 x.fl]) (by simp [results, Tryd.results23, go_sem]) rfl ⟨rfl, (Below.refl _ _).alloc (Nat.le_refl _) _⟩
theorem css_zstep (p : Nat) (x : Lx) (w : World) (h : Css w p x) (hc : x.cur ≤ x.s.size) (hs : x.s.size ≤ 2097152) (hst : x.st ≤ x.cur) (hn : x.nl ≤ 1099511627776) (ht : Lib.Utf8Tabs 0 1 w) : Calls Tryd.prog 19 #[.pointer (some ⟨p, 0, none⟩)] w (Moved w p x.step) := by
  have K := Lib.hid (css_step p x w h hc hs hst hn ht)
  clear h hc hs hst hn ht
  go_enter Tryd.func19, Tryd.ntmps19
  go_wp2_with fail
  refine K.out.mono ?_
  rintro r w' ⟨rfl, h2, h3⟩
  have H := Lib.hid (And.intro h2 h3)
  clear h2 h3
  go_wp2
  go_end0
  exact ⟨rfl, H.out.1, H.out.2⟩
theorem tabs_below {g3 g4 B : Nat} {w w' : World} (h : Lib.Utf8Tabs g3 g4 w) (hb : Below B w w') (h3 : g3 < B) (h4 : g4 < B) : Lib.Utf8Tabs g3 g4 w' :=
  ⟨fun c hc => (hb.cell (p := ⟨g3, c, none⟩) h3).trans (h.1 c hc), fun i hi => ⟨(hb.cell (p := ⟨g4, 2 * i, none⟩) h4).trans (h.2 i hi).1, (hb.cell (p := ⟨g4, 2 * i + 1, none⟩) h4).trans (h.2 i hi).2⟩⟩
end Go.Proofs.YtlbpplkanogkgaaDoor
