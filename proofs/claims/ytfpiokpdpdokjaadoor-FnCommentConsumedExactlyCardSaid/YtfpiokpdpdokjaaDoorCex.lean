/-
  The exports of the css lexer that FnCommentConsumedExactly calls, and its test of white space. No statement of the seat is proved here.
-/
import Derived.Test.YtfpiokpdpdokjaaDoorCcp
namespace Go.Proofs.YtfpiokpdpdokjaaDoor
open Go.RowKit
set_option linter.unusedVariables false
noncomputable def cNew (s : ByteArray) (r : Bool) : Array Value := cellsOf ((Instr.build 76 #[(0, .agg #[.bool r]), (2, .agg (cSrc s))]).run Tryd.prog default)
theorem cBuild76 (s : ByteArray) (r : Bool) (w : World) : (Instr.build 76 #[(0, .agg #[.bool r]), (2, .agg (cSrc s))]).run Tryd.prog w = .ok (.agg (cNew s r)) w := by kernel_rfl
theorem css_of_new (s : ByteArray) (r : Bool) {w : World} {p : Nat} (h : Blk w p 76 (cNew s r)) : Css w p (fresh s r) :=
  ⟨_, h, by kernel_rfl, by kernel_rfl, by kernel_rfl, by kernel_rfl, by kernel_rfl, by kernel_rfl, by kernel_rfl, by kernel_rfl, by kernel_rfl, by kernel_rfl, by kernel_rfl, by kernel_rfl, by kernel_rfl, by kernel_rfl, by kernel_rfl, by kernel_rfl⟩
def IsNew (w : World) (s : ByteArray) (b : Bool) (r : Ending) (w' : World) : Prop := ∃ p, r = .returned (.pointer (some ⟨p, 0, none⟩)) ∧ Css w' p (fresh s b) ∧ w.heap.size ≤ p ∧ Below w.heap.size w w'
theorem css_new111 (s : ByteArray) (b : Bool) (w : World) : Calls Tryd.prog 7 #[.string s, .bool b] w (IsNew w s b) := by
  go_enter Tryd.func7, Tryd.ntmps7
  go_wp2_with (first | (refine wpList_build rfl 60 _ rfl [(2, .string s)] rfl (cSrc s) (cBuild47 s) ?_) | (refine wpList_build rfl 76 _ rfl [(0, .agg #[.bool b]), (2, .agg (cSrc s))] rfl (cNew s b) (cBuild76 s b) ?_))
  go_ret
  exact ⟨_, rfl, css_of_new s b (Blk.new _ _ _), Nat.le_refl _, (Below.refl _ _).alloc (Nat.le_refl _) _⟩
theorem css_cp (p : Nat) (x : Lx) (w : World) (h : Css w p x) : Calls Tryd.prog 11 #[.pointer (some ⟨p, 0, none⟩)] w fun r w' => r = .returned (.int .i32 x.cp) ∧ w' = w := by
  obtain ⟨c0, c10, c17, c18, c19, c20, c21, c32, c33, c35, c36, c37, c38, c39, c40⟩ := h.cells
  go_enter Tryd.func11, Tryd.ntmps11
  go_wp2
  go_ret
  exact ⟨rfl, rfl⟩
theorem css_cur (p : Nat) (x : Lx) (w : World) (h : Css w p x) : Calls Tryd.prog 12 #[.pointer (some ⟨p, 0, none⟩)] w fun r w' => r = .returned (.int .i64 x.cur) ∧ w' = w := by
  obtain ⟨c0, c10, c17, c18, c19, c20, c21, c32, c33, c35, c36, c37, c38, c39, c40⟩ := h.cells
  go_enter Tryd.func12, Tryd.ntmps12
  go_wp2
  go_ret
  exact ⟨rfl, rfl⟩
theorem css_nl (p : Nat) (x : Lx) (w : World) (h : Css w p x) : Calls Tryd.prog 15 #[.pointer (some ⟨p, 0, none⟩)] w fun r w' => r = .returned (.int .i64 x.nl) ∧ w' = w := by
  obtain ⟨c0, c10, c17, c18, c19, c20, c21, c32, c33, c35, c36, c37, c38, c39, c40⟩ := h.cells
  go_enter Tryd.func15, Tryd.ntmps15
  go_wp2
  go_ret
  exact ⟨rfl, rfl⟩
theorem css_tok (p : Nat) (x : Lx) (w : World) (h : Css w p x) : Calls Tryd.prog 13 #[.pointer (some ⟨p, 0, none⟩)] w fun r w' => r = .returned (.agg #[.int .i32 x.st, .int .i32 x.ln, .int .u16 x.un, .int .u8 x.kd, .int .u8 x.fl]) ∧ Below w.heap.size w w' := by
  have hp := h.lt
  obtain ⟨c0, c10, c17, c18, c19, c20, c21, c32, c33, c35, c36, c37, c38, c39, c40⟩ := h.cells
  go_enter Tryd.func13, Tryd.ntmps13
  go_wp2
  refine bodyPost_ret (v := .agg #[.int .i32 x.st, .int .i32 x.ln, .int .u16 x.un, .int .u8 x.kd, .int .u8 x.fl]) (by simp [results, Tryd.results13, go_sem]) rfl ⟨rfl, (Below.refl _ _).alloc (Nat.le_refl _) _⟩
theorem css_zstep (p : Nat) (x : Lx) (w : World) (h : Css w p x) (hc : x.cur ≤ x.s.size) (hs : x.s.size ≤ 2097152) (hst : x.st ≤ x.cur) (hn : x.nl ≤ 1099511627776) (ht : Lib.Utf8Tabs 0 1 w) : Calls Tryd.prog 8 #[.pointer (some ⟨p, 0, none⟩)] w (Moved w p x.step) := by
  have K := Lib.hid (css_step p x w h hc hs hst hn ht)
  clear h hc hs hst hn ht
  go_enter Tryd.func8, Tryd.ntmps8
  go_wp2_with fail
  refine K.out.mono ?_
  rintro r w' ⟨rfl, h2, h3⟩
  have H := Lib.hid (And.intro h2 h3)
  clear h2 h3
  go_wp2
  go_end0
  exact ⟨rfl, H.out.1, H.out.2⟩
/-- how many comments were recorded: al is a slice -/
theorem css_count (p : Nat) (x : Lx) (ao : Option Addr) (n cap : Nat) (w : World) (h : Css w p x) (ha : x.al = .slice ao n cap) : Calls Tryd.prog 16 #[.pointer (some ⟨p, 0, none⟩)] w fun r w' => r = .returned (.int .i64 n) ∧ w' = w := by
  obtain ⟨c0, c10, c17, c18, c19, c20, c21, c32, c33, c35, c36, c37, c38, c39, c40⟩ := h.cells
  rw [ha] at c17
  go_enter Tryd.func16, Tryd.ntmps16
  go_wp2
  go_ret
  exact ⟨rfl, rfl⟩
theorem css_legal (p : Nat) (x : Lx) (ao : Option Addr) (n cap : Nat) (w : World) (h : Css w p x) (ha : x.lg = .slice ao n cap) : Calls Tryd.prog 18 #[.pointer (some ⟨p, 0, none⟩)] w fun r w' => r = .returned (.int .i64 n) ∧ w' = w := by
  obtain ⟨c0, c10, c17, c18, c19, c20, c21, c32, c33, c35, c36, c37, c38, c39, c40⟩ := h.cells
  rw [ha] at c18
  go_enter Tryd.func18, Tryd.ntmps18
  go_wp2
  go_ret
  exact ⟨rfl, rfl⟩
theorem css_at0 (p g cap : Nat) (m : Int) (x : Lx) (w : World) (h : Css w p x) (ha : x.al = .slice (some ⟨g, 0, none⟩) 1 cap) (h0 : w.cell? ⟨g, 0, none⟩ = some (.int .i32 0)) (h1 : w.cell? ⟨g, 1, none⟩ = some (.int .i32 m)) :
    Calls Tryd.prog 17 #[.pointer (some ⟨p, 0, none⟩), .int .i64 0] w fun r w' => r = .returned (.tuple #[.int .i32 0, .int .i32 m]) ∧ ∃ k, w' = w.drewN k := by
  obtain ⟨c0, c10, c17, c18, c19, c20, c21, c32, c33, c35, c36, c37, c38, c39, c40⟩ := h.cells
  rw [ha] at c17
  clear c0 c10 c18 c19 c20 c21 c32 c33 c35 c36 c37 c38 c39 c40 ha
  go_enter Tryd.func17, Tryd.ntmps17
  go_wp2
  go_quiet (fail)
  go_wp2
  go_ret2
  exact ⟨rfl, _, rfl⟩
theorem css_url (p : Nat) (x : Lx) (w : World) (h : Css w p x) : Calls Tryd.prog 19 #[.pointer (some ⟨p, 0, none⟩)] w fun r w' => r = .returned (.tuple #[.string x.mt, .int .i32 x.ms, .int .i32 x.ml]) ∧ ∃ k, w' = w.drewN k := by
  obtain ⟨c0, c10, c17, c18, c19, c20, c21, c32, c33, c35, c36, c37, c38, c39, c40⟩ := h.cells
  clear c0 c10 c17 c18 c32 c33 c35 c36 c37 c38 c39 c40
  go_enter Tryd.func19, Tryd.ntmps19
  go_wp2
  go_quiet (fail)
  go_wp2
  exact bodyPost_ret (v := .tuple #[.string x.mt, .int .i32 x.ms, .int .i32 x.ml]) (by simp [results, Tryd.results19, go_sem]) rfl ⟨rfl, _, rfl⟩
def isWS (c : Int) : Bool := decide (c = 32 ∨ c = 9 ∨ c = 10 ∨ c = 13 ∨ c = 12)
theorem ws_any (c : Int) (w : World) : Calls Tryd.prog 26 #[.int .i32 c] w fun e w' => e = .returned (.bool (isWS c)) ∧ w = w' := by
  by_cases h : c = 32 ∨ c = 9 ∨ c = 10 ∨ c = 13 ∨ c = 12
  · rcases h with rfl | rfl | rfl | rfl | rfl <;> (go_enter Tryd.func26, Tryd.ntmps26; go_wp2; go_ret; exact ⟨rfl, rfl⟩)
  · have R : isWS c = false := by simp only [isWS, decide_eq_false_iff_not]; exact h
    have t0 : (c == 32) = false := beq_eq_false_iff_ne.2 (by omega)
    have t9 : (c == 9) = false := beq_eq_false_iff_ne.2 (by omega)
    have t1 : (c == 10) = false := beq_eq_false_iff_ne.2 (by omega)
    have t2 : (c == 13) = false := beq_eq_false_iff_ne.2 (by omega)
    have t3 : (c == 12) = false := beq_eq_false_iff_ne.2 (by omega)
    have HR := Lib.hid R
    clear h R
    go_enter Tryd.func26, Tryd.ntmps26
    go_wp2
    go_ret
    exact ⟨ret_bool HR.out.symm, rfl⟩
theorem zws_any (c : Int) (w : World) : Calls Tryd.prog 20 #[.int .u8 c] w fun e w' => e = .returned (.bool (isWS c)) ∧ w = w' := by
  by_cases h : c = 32 ∨ c = 9 ∨ c = 10 ∨ c = 13 ∨ c = 12
  · rcases h with rfl | rfl | rfl | rfl | rfl <;> (go_enter Tryd.func20, Tryd.ntmps20; go_wp2; go_ret; exact ⟨rfl, rfl⟩)
  · have R : isWS c = false := by simp only [isWS, decide_eq_false_iff_not]; exact h
    have t0 : (c == 32) = false := beq_eq_false_iff_ne.2 (by omega)
    have t9 : (c == 9) = false := beq_eq_false_iff_ne.2 (by omega)
    have t1 : (c == 10) = false := beq_eq_false_iff_ne.2 (by omega)
    have t2 : (c == 13) = false := beq_eq_false_iff_ne.2 (by omega)
    have t3 : (c == 12) = false := beq_eq_false_iff_ne.2 (by omega)
    have HR := Lib.hid R
    clear h R
    go_enter Tryd.func20, Tryd.ntmps20
    go_wp2
    go_ret
    exact ⟨ret_bool HR.out.symm, rfl⟩
end Go.Proofs.YtfpiokpdpdokjaaDoor
