/-
  The lexer that ZZConsumeNumericB5 makes: its log and tracker, its state. No statement of the seat is proved here.
-/
import Derived.Test.YtlbpplkanogkgaaDoorCssName
import Derived.Laws.EntriesVeiled
namespace Go.Proofs.YtlbpplkanogkgaaDoor
open Go.RowKit
set_option linter.unusedVariables false
set_option maxRecDepth 100000 in
set_option maxHeartbeats 1000000 in
theorem deferlog (w : World) : Calls Tryd.prog 69 #[.int .u8 1, .map none] w fun r w' => (∃ a b c d : Value, r = .returned (.agg #[a, b, c, d, .int .i8 3, .map none])) ∧ Below w.heap.size w w' := by
  go_enter Tryd.func69, Tryd.ntmps69
  go_wp2
  refine bodyPost_ret (v := .agg #[.func (Fn.func 85) #[] #[.pointer (some ⟨w.heap.size, 0, none⟩), .pointer (some ⟨w.heap.size + 1 + 1 + 1, 0, none⟩), .pointer (some ⟨w.heap.size + 1 + 1 + 1 + 1, 0, none⟩), .pointer (some ⟨w.heap.size + 1 + 1, 0, none⟩)], .func (Fn.func 88) #[] #[.pointer (some ⟨w.heap.size + 1 + 1 + 1, 0, none⟩), .pointer (some ⟨w.heap.size + 1 + 1 + 1 + 1, 0, none⟩)], .func (Fn.func 89) #[] #[.pointer (some ⟨w.heap.size + 1 + 1 + 1, 0, none⟩), .pointer (some ⟨w.heap.size + 1 + 1, 0, none⟩)], .func (Fn.func 90) #[] #[.pointer (some ⟨w.heap.size + 1 + 1 + 1, 0, none⟩), .pointer (some ⟨w.heap.size + 1 + 1, 0, none⟩)], .int .i8 3, .map none]) (by simp [results, Tryd.results69, go_sem]) rfl ⟨⟨_, _, _, _, rfl⟩, ?_⟩
  exact (((((Below.refl _ _).alloc (Nat.le_refl _) _).alloc (by simp) _).alloc (by simp; omega) _).alloc (by simp; omega) _).alloc (by simp; omega) _
set_option maxRecDepth 100000 in
set_option maxHeartbeats 1000000 in
theorem tracker (p : Nat) (s a b : ByteArray) (w : World) (h10 : w.cell? ⟨p, 10, none⟩ = some (.string s)) (h7 : w.cell? ⟨p, 7, none⟩ = some (.string a)) (h8 : w.cell? ⟨p, 8, none⟩ = some (.string b)) : Calls Tryd.prog 70 #[.pointer (some ⟨p, 7, none⟩)] w fun r w' => r = .returned (.agg #[.string s, .string a, .string b, .int .i32 0, .int .i32 0, .int .i32 0, .int .i32 0, .bool true, .bool false, .bool true]) ∧ Below w.heap.size w w' := by
  have hp := World.block_lt_of_cell? w _ h10
  go_enter Tryd.func70, Tryd.ntmps70
  go_wp2
  go_region
  go_wp2
  exact bodyPost_ret (v := .agg #[.string s, .string a, .string b, .int .i32 0, .int .i32 0, .int .i32 0, .int .i32 0, .bool true, .bool false, .bool true]) (by simp [results, Tryd.results70, go_sem]) rfl ⟨rfl, ((Below.refl _ _).alloc (Nat.le_refl _) _).drew⟩
noncomputable def cLog (s : ByteArray) (a b c d : Value) : Array Value := cellsOf ((Instr.build 93 #[(1, .agg #[a, b, c, d, .int .i8 3, .map none]), (2, .agg (cSrc s))]).run Tryd.prog default)
theorem cBuildLog (s : ByteArray) (a b c d : Value) (w : World) : (Instr.build 93 #[(1, .agg #[a, b, c, d, .int .i8 3, .map none]), (2, .agg (cSrc s))]).run Tryd.prog w = .ok (.agg (cLog s a b c d)) w := by kernel_rfl
theorem css_of_log (s : ByteArray) (a b c d : Value) {w : World} {p : Nat} (h : Blk w p 93 (cLog s a b c d)) : Css w p (fresh s false) ∧ w.cell? ⟨p, 7, none⟩ = some (.string ByteArray.empty) ∧ w.cell? ⟨p, 8, none⟩ = some (.string ByteArray.empty) :=
  ⟨⟨_, h, by kernel_rfl, by kernel_rfl, by kernel_rfl, by kernel_rfl, by kernel_rfl, by kernel_rfl, by kernel_rfl, by kernel_rfl, by kernel_rfl, by kernel_rfl, by kernel_rfl, by kernel_rfl, by kernel_rfl, by kernel_rfl, by kernel_rfl, by kernel_rfl⟩, (h.cell 7).trans (by kernel_rfl), (h.cell 8).trans (by kernel_rfl)⟩
/-- a store into a cell that none of the laws reads -/
theorem Css.set_oth {w : World} {p : Nat} {x : Lx} (h : Css w p x) (i : Nat) (v : Value) (hi : 22 ≤ i) (hi2 : i ≤ 31) : Css (w.setCell ⟨p, i, none⟩ v) p x := by
  obtain ⟨cs, hb, hz, h0, h10, h17, h18, h19, h20, h21, h32, h33, h35, h36, h37, h38, h39, h40⟩ := h
  exact ⟨_, hb.set i _, (Array.size_setIfInBounds).trans hz, gs_ne h0 (by omega), gs_ne h10 (by omega), gs_ne h17 (by omega), gs_ne h18 (by omega), gs_ne h19 (by omega), gs_ne h20 (by omega), gs_ne h21 (by omega), gs_ne h32 (by omega), gs_ne h33 (by omega), gs_ne h35 (by omega), gs_ne h36 (by omega), gs_ne h37 (by omega), gs_ne h38 (by omega), gs_ne h39 (by omega), gs_ne h40 (by omega)⟩
theorem Css.some {w : World} {p : Nat} {x : Lx} (h : Css w p x) (i : Nat) (hi : i < 41) : ∃ v, w.cell? ⟨p, i, none⟩ = .some v := by
  obtain ⟨cs, hb, hz, _⟩ := h
  exact ⟨cs[i]'(by omega), (hb.cell i).trans (Array.getElem?_eq_getElem (by omega))⟩
theorem co_oth {a w : World} {p : Nat} {x : Lx} (h : Css w p x ∧ a.grownBy w (some p)) (i : Nat) (v : Value) (hi : 22 ≤ i) (hi2 : i ≤ 31) : Css (w.setCell ⟨p, i, none⟩ v) p x ∧ a.grownBy (w.setCell ⟨p, i, none⟩ v) (some p) :=
  ⟨h.1.set_oth i v hi hi2, gb_set h.2 _ _ _⟩
theorem co_cur {a w : World} {p : Nat} {x : Lx} (h : Css w p x ∧ a.grownBy w (some p)) (v : Nat) : Css (w.setCell ⟨p, 33, none⟩ (.int .i64 v)) p {x with cur := v} ∧ a.grownBy (w.setCell ⟨p, 33, none⟩ (.int .i64 v)) (some p) :=
  ⟨h.1.set_cur v, gb_set h.2 _ _ _⟩
theorem co_st {a w : World} {p : Nat} {x : Lx} (h : Css w p x ∧ a.grownBy w (some p)) (v : Nat) : Css (w.setCell ⟨p, 36, none⟩ (.int .i32 v)) p {x with st := v} ∧ a.grownBy (w.setCell ⟨p, 36, none⟩ (.int .i32 v)) (some p) :=
  ⟨h.1.set_st v, gb_set h.2 _ _ _⟩
/-- a lexer laid at a position -/
def laidAt (s : ByteArray) (st : Nat) : Lx := {fresh s false with st := st}
theorem laid_first (s : ByteArray) (st : Nat) (h : st ≤ s.size) : ({fresh s false with st := st, cur := st} : Lx).step = (laidAt s st).at (cntNL s st) st := by
  have hc := cnt_dec s st h
  unfold Lx.step Lx.at laidAt fresh
  simp only [hc]
  congr 1
  omega
def Laid (w : World) (s : ByteArray) (st : Nat) (r : Ending) (w' : World) : Prop := ∃ p, r = .returned (.pointer (some ⟨p, 0, none⟩)) ∧ Lex w' p (laidAt s st) (cntNL s st) st ∧ w.heap.size ≤ p ∧ Below w.heap.size w w'
set_option maxRecDepth 100000 in
set_option maxHeartbeats 4000000 in
theorem mk_any (s : ByteArray) (st : Nat) (w : World) (h : st ≤ s.size) (hs : s.size ≤ 1048576) (ht : Lib.Utf8Tabs 0 1 w) : Calls Tryd.prog 57 #[.string s, .int .i64 st] w (Laid w s st) := by
  have w0 : 1 < w.heap.size := World.block_lt_of_cell? w ⟨1, 0, none⟩ (ht.2 0 (by decide)).1
  have HT := Lib.hid ht
  clear ht
  go_enter Tryd.func57, Tryd.ntmps57
  go_wp2_with fail
  refine (deferlog _).mono ?_
  rintro e w1 ⟨⟨a, b, c, d, rfl⟩, b1⟩
  have hz1 := b1.size
  have B1 := Lib.hid b1
  clear b1
  go_wp2_with (first | (refine wpList_build rfl 47 _ rfl [(2, .string s)] rfl (cSrc s) (cBuild47 s) ?_) | (refine wpList_build rfl 93 _ rfl [(1, .agg #[a, b, c, d, .int .i8 3, .map none]), (2, .agg (cSrc s))] rfl (cLog s a b c d) (cBuildLog s a b c d) ?_))
  obtain ⟨hc2, h7, h8⟩ := css_of_log s a b c d (Blk.new w1 93 (cLog s a b c d))
  obtain ⟨c0, c10, c17, c18, c19, c20, c21, c32, c33, c35, c36, c37, c38, c39, c40⟩ := hc2.cells
  refine (tracker _ s _ _ _ c10 h7 h8).mono ?_
  rintro e w2 ⟨rfl, b2⟩
  have hc3 := hc2.kept b2
  have hz2 := b2.size
  have B2 : Below w.heap.size w w2 := (B1.out.alloc (by omega) _).trans (b2.mono (by simp; omega))
  have H2 := Lib.hid (And.intro hc3 B2)
  have hlt := hc3.lt
  obtain ⟨v22, k22⟩ := hc3.some 22 (by omega)
  obtain ⟨v23, k23⟩ := hc3.some 23 (by omega)
  obtain ⟨v24, k24⟩ := hc3.some 24 (by omega)
  obtain ⟨v25, k25⟩ := hc3.some 25 (by omega)
  obtain ⟨v26, k26⟩ := hc3.some 26 (by omega)
  obtain ⟨v27, k27⟩ := hc3.some 27 (by omega)
  obtain ⟨v28, k28⟩ := hc3.some 28 (by omega)
  obtain ⟨v29, k29⟩ := hc3.some 29 (by omega)
  obtain ⟨v30, k30⟩ := hc3.some 30 (by omega)
  obtain ⟨v31, k31⟩ := hc3.some 31 (by omega)
  obtain ⟨v33, k33⟩ := hc3.some 33 (by omega)
  obtain ⟨v36, k36⟩ := hc3.some 36 (by omega)
  have f := hc3.free
  have f22 := f 22
  have f23 := f 23
  have f24 := f 24
  have f25 := f 25
  have f26 := f 26
  have f27 := f 27
  have f28 := f 28
  have f29 := f 29
  have f30 := f 30
  have f31 := f 31
  have f33 := f 33
  have f36 := f 36
  clear c0 c10 c17 c18 c19 c20 c21 c32 c33 c35 c36 c37 c38 c39 c40 h7 h8 hc2 b2 hc3 B2 f
  go_wp2_with fail
  obtain ⟨hcs, hg⟩ := (co_st (co_cur (co_oth (co_oth (co_oth (co_oth (co_oth (co_oth (co_oth (co_oth (co_oth (co_oth (And.intro H2.out.1 (gb_refl w2 (some w1.heap.size))) 22 (.string s) (by omega) (by omega)) 23 (.string ByteArray.empty) (by omega) (by omega)) 24 (.string ByteArray.empty) (by omega) (by omega)) 25 (.int .i32 0) (by omega) (by omega)) 26 (.int .i32 0) (by omega) (by omega)) 27 (.int .i32 0) (by omega) (by omega)) 28 (.int .i32 0) (by omega) (by omega)) 29 (.bool true) (by omega) (by omega)) 30 (.bool false) (by omega) (by omega)) 31 (.bool true) (by omega) (by omega)) st) st)
  have hst := css_step w1.heap.size _ _ hcs h (show s.size ≤ 2097152 by omega) (Nat.le_refl st) (Nat.zero_le _) (tabs_gbn (tabs_below HT.out H2.out.2 (by omega) (by omega)) hg (by simp; omega) (by simp; omega))
  rw [show Lx.step _ = (laidAt s st).at (cntNL s st) st from laid_first s st h] at hst
  refine hst.mono ?_
  rintro e w5 ⟨rfl, h5, g5⟩
  have g6 := gb_trans hg g5
  have l5 : Lex w5 w1.heap.size (laidAt s st) (cntNL s st) st := ⟨h5, h, Nat.le_refl _, (show s.size ≤ 2097152 by omega), Nat.le_refl _, tabs_gbn (tabs_below HT.out H2.out.2 (by omega) (by omega)) g6 (by simp; omega) (by simp; omega), by omega⟩
  have H5 := Lib.hid (And.intro l5 (below_gb H2.out.2 g6 (by omega) (by omega)))
  clear hcs hg hst h5 g5 g6 l5
  go_wp2_with fail
  go_ret
  exact ⟨_, rfl, H5.out.1, by omega, H5.out.2⟩
end Go.Proofs.YtlbpplkanogkgaaDoor
