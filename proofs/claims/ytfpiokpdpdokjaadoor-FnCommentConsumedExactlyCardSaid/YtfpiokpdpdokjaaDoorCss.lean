/-
  The css lexer's state as the laws of this seat use it: the cells that matter, and what a store does to them. No statement of the seat is proved here.
-/
import Derived.Test.YtfpiokpdpdokjaaDoorBase
namespace Go.Proofs.YtfpiokpdpdokjaaDoor
open Go.RowKit
set_option linter.unusedVariables false
/-- what a css lexer holds -/
structure Lx where
  ra : Bool
  s : ByteArray
  al : Value
  lg : Value
  mt : ByteArray
  ms : Int
  ml : Int
  nl : Nat
  cur : Nat
  cp : Int
  st : Nat
  ln : Nat
  un : Nat
  kd : Nat
  fl : Nat
/-- a css lexer at block p -/
def Css (w : World) (p : Nat) (x : Lx) : Prop := ∃ cs : Array Value, Blk w p 76 cs ∧ cs.size = 41
  ∧ cs[0]? = some (.bool x.ra)
  ∧ cs[10]? = some (.string x.s)
  ∧ cs[17]? = some x.al
  ∧ cs[18]? = some x.lg
  ∧ cs[19]? = some (.string x.mt)
  ∧ cs[20]? = some (.int .i32 x.ms)
  ∧ cs[21]? = some (.int .i32 x.ml)
  ∧ cs[32]? = some (.int .i64 x.nl)
  ∧ cs[33]? = some (.int .i64 x.cur)
  ∧ cs[35]? = some (.int .i32 x.cp)
  ∧ cs[36]? = some (.int .i32 x.st)
  ∧ cs[37]? = some (.int .i32 x.ln)
  ∧ cs[38]? = some (.int .u16 x.un)
  ∧ cs[39]? = some (.int .u8 x.kd)
  ∧ cs[40]? = some (.int .u8 x.fl)
theorem gs_ne {cs : Array Value} {i j : Nat} {v u : Value} (h : cs[i]? = some u) (hne : j ≠ i) : (cs.setIfInBounds j v)[i]? = some u := by rw [Array.getElem?_setIfInBounds, if_neg hne]; exact h
theorem gs_eq (cs : Array Value) (j : Nat) (v : Value) (hz : j < cs.size) : (cs.setIfInBounds j v)[j]? = some v := by rw [Array.getElem?_setIfInBounds, if_pos rfl, if_pos hz]
theorem Css.set_al {w : World} {p : Nat} {x : Lx} (h : Css w p x) (v : Value) : Css (w.setCell ⟨p, 17, none⟩ v) p {x with al := v} := by
  obtain ⟨cs, hb, hz, h0, h10, h17, h18, h19, h20, h21, h32, h33, h35, h36, h37, h38, h39, h40⟩ := h
  exact ⟨_, hb.set 17 _, (Array.size_setIfInBounds).trans hz, gs_ne h0 (by decide), gs_ne h10 (by decide), gs_eq cs 17 _ (by omega), gs_ne h18 (by decide), gs_ne h19 (by decide), gs_ne h20 (by decide), gs_ne h21 (by decide), gs_ne h32 (by decide), gs_ne h33 (by decide), gs_ne h35 (by decide), gs_ne h36 (by decide), gs_ne h37 (by decide), gs_ne h38 (by decide), gs_ne h39 (by decide), gs_ne h40 (by decide)⟩
theorem Css.set_lg {w : World} {p : Nat} {x : Lx} (h : Css w p x) (v : Value) : Css (w.setCell ⟨p, 18, none⟩ v) p {x with lg := v} := by
  obtain ⟨cs, hb, hz, h0, h10, h17, h18, h19, h20, h21, h32, h33, h35, h36, h37, h38, h39, h40⟩ := h
  exact ⟨_, hb.set 18 _, (Array.size_setIfInBounds).trans hz, gs_ne h0 (by decide), gs_ne h10 (by decide), gs_ne h17 (by decide), gs_eq cs 18 _ (by omega), gs_ne h19 (by decide), gs_ne h20 (by decide), gs_ne h21 (by decide), gs_ne h32 (by decide), gs_ne h33 (by decide), gs_ne h35 (by decide), gs_ne h36 (by decide), gs_ne h37 (by decide), gs_ne h38 (by decide), gs_ne h39 (by decide), gs_ne h40 (by decide)⟩
theorem Css.set_mt {w : World} {p : Nat} {x : Lx} (h : Css w p x) (v : ByteArray) : Css (w.setCell ⟨p, 19, none⟩ (.string v)) p {x with mt := v} := by
  obtain ⟨cs, hb, hz, h0, h10, h17, h18, h19, h20, h21, h32, h33, h35, h36, h37, h38, h39, h40⟩ := h
  exact ⟨_, hb.set 19 _, (Array.size_setIfInBounds).trans hz, gs_ne h0 (by decide), gs_ne h10 (by decide), gs_ne h17 (by decide), gs_ne h18 (by decide), gs_eq cs 19 _ (by omega), gs_ne h20 (by decide), gs_ne h21 (by decide), gs_ne h32 (by decide), gs_ne h33 (by decide), gs_ne h35 (by decide), gs_ne h36 (by decide), gs_ne h37 (by decide), gs_ne h38 (by decide), gs_ne h39 (by decide), gs_ne h40 (by decide)⟩
theorem Css.set_ms {w : World} {p : Nat} {x : Lx} (h : Css w p x) (v : Int) : Css (w.setCell ⟨p, 20, none⟩ (.int .i32 v)) p {x with ms := v} := by
  obtain ⟨cs, hb, hz, h0, h10, h17, h18, h19, h20, h21, h32, h33, h35, h36, h37, h38, h39, h40⟩ := h
  exact ⟨_, hb.set 20 _, (Array.size_setIfInBounds).trans hz, gs_ne h0 (by decide), gs_ne h10 (by decide), gs_ne h17 (by decide), gs_ne h18 (by decide), gs_ne h19 (by decide), gs_eq cs 20 _ (by omega), gs_ne h21 (by decide), gs_ne h32 (by decide), gs_ne h33 (by decide), gs_ne h35 (by decide), gs_ne h36 (by decide), gs_ne h37 (by decide), gs_ne h38 (by decide), gs_ne h39 (by decide), gs_ne h40 (by decide)⟩
theorem Css.set_ml {w : World} {p : Nat} {x : Lx} (h : Css w p x) (v : Int) : Css (w.setCell ⟨p, 21, none⟩ (.int .i32 v)) p {x with ml := v} := by
  obtain ⟨cs, hb, hz, h0, h10, h17, h18, h19, h20, h21, h32, h33, h35, h36, h37, h38, h39, h40⟩ := h
  exact ⟨_, hb.set 21 _, (Array.size_setIfInBounds).trans hz, gs_ne h0 (by decide), gs_ne h10 (by decide), gs_ne h17 (by decide), gs_ne h18 (by decide), gs_ne h19 (by decide), gs_ne h20 (by decide), gs_eq cs 21 _ (by omega), gs_ne h32 (by decide), gs_ne h33 (by decide), gs_ne h35 (by decide), gs_ne h36 (by decide), gs_ne h37 (by decide), gs_ne h38 (by decide), gs_ne h39 (by decide), gs_ne h40 (by decide)⟩
theorem Css.set_nl {w : World} {p : Nat} {x : Lx} (h : Css w p x) (v : Nat) : Css (w.setCell ⟨p, 32, none⟩ (.int .i64 v)) p {x with nl := v} := by
  obtain ⟨cs, hb, hz, h0, h10, h17, h18, h19, h20, h21, h32, h33, h35, h36, h37, h38, h39, h40⟩ := h
  exact ⟨_, hb.set 32 _, (Array.size_setIfInBounds).trans hz, gs_ne h0 (by decide), gs_ne h10 (by decide), gs_ne h17 (by decide), gs_ne h18 (by decide), gs_ne h19 (by decide), gs_ne h20 (by decide), gs_ne h21 (by decide), gs_eq cs 32 _ (by omega), gs_ne h33 (by decide), gs_ne h35 (by decide), gs_ne h36 (by decide), gs_ne h37 (by decide), gs_ne h38 (by decide), gs_ne h39 (by decide), gs_ne h40 (by decide)⟩
theorem Css.set_cur {w : World} {p : Nat} {x : Lx} (h : Css w p x) (v : Nat) : Css (w.setCell ⟨p, 33, none⟩ (.int .i64 v)) p {x with cur := v} := by
  obtain ⟨cs, hb, hz, h0, h10, h17, h18, h19, h20, h21, h32, h33, h35, h36, h37, h38, h39, h40⟩ := h
  exact ⟨_, hb.set 33 _, (Array.size_setIfInBounds).trans hz, gs_ne h0 (by decide), gs_ne h10 (by decide), gs_ne h17 (by decide), gs_ne h18 (by decide), gs_ne h19 (by decide), gs_ne h20 (by decide), gs_ne h21 (by decide), gs_ne h32 (by decide), gs_eq cs 33 _ (by omega), gs_ne h35 (by decide), gs_ne h36 (by decide), gs_ne h37 (by decide), gs_ne h38 (by decide), gs_ne h39 (by decide), gs_ne h40 (by decide)⟩
theorem Css.set_cp {w : World} {p : Nat} {x : Lx} (h : Css w p x) (v : Int) : Css (w.setCell ⟨p, 35, none⟩ (.int .i32 v)) p {x with cp := v} := by
  obtain ⟨cs, hb, hz, h0, h10, h17, h18, h19, h20, h21, h32, h33, h35, h36, h37, h38, h39, h40⟩ := h
  exact ⟨_, hb.set 35 _, (Array.size_setIfInBounds).trans hz, gs_ne h0 (by decide), gs_ne h10 (by decide), gs_ne h17 (by decide), gs_ne h18 (by decide), gs_ne h19 (by decide), gs_ne h20 (by decide), gs_ne h21 (by decide), gs_ne h32 (by decide), gs_ne h33 (by decide), gs_eq cs 35 _ (by omega), gs_ne h36 (by decide), gs_ne h37 (by decide), gs_ne h38 (by decide), gs_ne h39 (by decide), gs_ne h40 (by decide)⟩
theorem Css.set_st {w : World} {p : Nat} {x : Lx} (h : Css w p x) (v : Nat) : Css (w.setCell ⟨p, 36, none⟩ (.int .i32 v)) p {x with st := v} := by
  obtain ⟨cs, hb, hz, h0, h10, h17, h18, h19, h20, h21, h32, h33, h35, h36, h37, h38, h39, h40⟩ := h
  exact ⟨_, hb.set 36 _, (Array.size_setIfInBounds).trans hz, gs_ne h0 (by decide), gs_ne h10 (by decide), gs_ne h17 (by decide), gs_ne h18 (by decide), gs_ne h19 (by decide), gs_ne h20 (by decide), gs_ne h21 (by decide), gs_ne h32 (by decide), gs_ne h33 (by decide), gs_ne h35 (by decide), gs_eq cs 36 _ (by omega), gs_ne h37 (by decide), gs_ne h38 (by decide), gs_ne h39 (by decide), gs_ne h40 (by decide)⟩
theorem Css.set_ln {w : World} {p : Nat} {x : Lx} (h : Css w p x) (v : Nat) : Css (w.setCell ⟨p, 37, none⟩ (.int .i32 v)) p {x with ln := v} := by
  obtain ⟨cs, hb, hz, h0, h10, h17, h18, h19, h20, h21, h32, h33, h35, h36, h37, h38, h39, h40⟩ := h
  exact ⟨_, hb.set 37 _, (Array.size_setIfInBounds).trans hz, gs_ne h0 (by decide), gs_ne h10 (by decide), gs_ne h17 (by decide), gs_ne h18 (by decide), gs_ne h19 (by decide), gs_ne h20 (by decide), gs_ne h21 (by decide), gs_ne h32 (by decide), gs_ne h33 (by decide), gs_ne h35 (by decide), gs_ne h36 (by decide), gs_eq cs 37 _ (by omega), gs_ne h38 (by decide), gs_ne h39 (by decide), gs_ne h40 (by decide)⟩
theorem Css.set_un {w : World} {p : Nat} {x : Lx} (h : Css w p x) (v : Nat) : Css (w.setCell ⟨p, 38, none⟩ (.int .u16 v)) p {x with un := v} := by
  obtain ⟨cs, hb, hz, h0, h10, h17, h18, h19, h20, h21, h32, h33, h35, h36, h37, h38, h39, h40⟩ := h
  exact ⟨_, hb.set 38 _, (Array.size_setIfInBounds).trans hz, gs_ne h0 (by decide), gs_ne h10 (by decide), gs_ne h17 (by decide), gs_ne h18 (by decide), gs_ne h19 (by decide), gs_ne h20 (by decide), gs_ne h21 (by decide), gs_ne h32 (by decide), gs_ne h33 (by decide), gs_ne h35 (by decide), gs_ne h36 (by decide), gs_ne h37 (by decide), gs_eq cs 38 _ (by omega), gs_ne h39 (by decide), gs_ne h40 (by decide)⟩
theorem Css.set_kd {w : World} {p : Nat} {x : Lx} (h : Css w p x) (v : Nat) : Css (w.setCell ⟨p, 39, none⟩ (.int .u8 v)) p {x with kd := v} := by
  obtain ⟨cs, hb, hz, h0, h10, h17, h18, h19, h20, h21, h32, h33, h35, h36, h37, h38, h39, h40⟩ := h
  exact ⟨_, hb.set 39 _, (Array.size_setIfInBounds).trans hz, gs_ne h0 (by decide), gs_ne h10 (by decide), gs_ne h17 (by decide), gs_ne h18 (by decide), gs_ne h19 (by decide), gs_ne h20 (by decide), gs_ne h21 (by decide), gs_ne h32 (by decide), gs_ne h33 (by decide), gs_ne h35 (by decide), gs_ne h36 (by decide), gs_ne h37 (by decide), gs_ne h38 (by decide), gs_eq cs 39 _ (by omega), gs_ne h40 (by decide)⟩
theorem Css.set_fl {w : World} {p : Nat} {x : Lx} (h : Css w p x) (v : Nat) : Css (w.setCell ⟨p, 40, none⟩ (.int .u8 v)) p {x with fl := v} := by
  obtain ⟨cs, hb, hz, h0, h10, h17, h18, h19, h20, h21, h32, h33, h35, h36, h37, h38, h39, h40⟩ := h
  exact ⟨_, hb.set 40 _, (Array.size_setIfInBounds).trans hz, gs_ne h0 (by decide), gs_ne h10 (by decide), gs_ne h17 (by decide), gs_ne h18 (by decide), gs_ne h19 (by decide), gs_ne h20 (by decide), gs_ne h21 (by decide), gs_ne h32 (by decide), gs_ne h33 (by decide), gs_ne h35 (by decide), gs_ne h36 (by decide), gs_ne h37 (by decide), gs_ne h38 (by decide), gs_ne h39 (by decide), gs_eq cs 40 _ (by omega)⟩
theorem Css.lt {w : World} {p : Nat} {x : Lx} (h : Css w p x) : p < w.heap.size := by
  obtain ⟨cs, hb, _⟩ := h
  exact hb.lt
theorem Css.free {w : World} {p : Nat} {x : Lx} (h : Css w p x) (i : Nat) : w.frozen? ⟨p, i, none⟩ = false := by
  obtain ⟨cs, hb, _⟩ := h
  exact hb.free i
theorem Css.drew {w : World} {p : Nat} {x : Lx} (h : Css w p x) : Css w.drew p x := h
theorem Css.gb {w w' : World} {p : Nat} {x : Lx} {row : Option Nat} (h : Css w p x) (hg : w.grownBy w' row) (hne : some p ≠ row) : Css w' p x := by
  obtain ⟨cs, hb, hr⟩ := h
  exact ⟨cs, hb.gb hg hne, hr⟩
theorem Css.alloc {w : World} {p : Nat} {x : Lx} (h : Css w p x) (o : Obj) : Css (w.alloc o) p x := by
  obtain ⟨cs, hb, hr⟩ := h
  exact ⟨cs, hb.alloc o, hr⟩
theorem Css.kept {w w' : World} {p : Nat} {x : Lx} (h : Css w p x) (hb' : Below w.heap.size w w') : Css w' p x := by
  obtain ⟨cs, hb, hr⟩ := h
  exact ⟨cs, hb.kept hb', hr⟩
theorem Css.cells {w : World} {p : Nat} {x : Lx} (h : Css w p x) : w.cell? ⟨p, 0, none⟩ = some (.bool x.ra) ∧ w.cell? ⟨p, 10, none⟩ = some (.string x.s) ∧ w.cell? ⟨p, 17, none⟩ = some x.al ∧ w.cell? ⟨p, 18, none⟩ = some x.lg ∧ w.cell? ⟨p, 19, none⟩ = some (.string x.mt) ∧ w.cell? ⟨p, 20, none⟩ = some (.int .i32 x.ms) ∧ w.cell? ⟨p, 21, none⟩ = some (.int .i32 x.ml) ∧ w.cell? ⟨p, 32, none⟩ = some (.int .i64 x.nl) ∧ w.cell? ⟨p, 33, none⟩ = some (.int .i64 x.cur) ∧ w.cell? ⟨p, 35, none⟩ = some (.int .i32 x.cp) ∧ w.cell? ⟨p, 36, none⟩ = some (.int .i32 x.st) ∧ w.cell? ⟨p, 37, none⟩ = some (.int .i32 x.ln) ∧ w.cell? ⟨p, 38, none⟩ = some (.int .u16 x.un) ∧ w.cell? ⟨p, 39, none⟩ = some (.int .u8 x.kd) ∧ w.cell? ⟨p, 40, none⟩ = some (.int .u8 x.fl) := by
  obtain ⟨cs, hb, hz, h0, h10, h17, h18, h19, h20, h21, h32, h33, h35, h36, h37, h38, h39, h40⟩ := h
  exact ⟨(hb.cell 0).trans h0, (hb.cell 10).trans h10, (hb.cell 17).trans h17, (hb.cell 18).trans h18, (hb.cell 19).trans h19, (hb.cell 20).trans h20, (hb.cell 21).trans h21, (hb.cell 32).trans h32, (hb.cell 33).trans h33, (hb.cell 35).trans h35, (hb.cell 36).trans h36, (hb.cell 37).trans h37, (hb.cell 38).trans h38, (hb.cell 39).trans h39, (hb.cell 40).trans h40⟩
theorem gb_of_below {w w' : World} (row : Option Nat) (h : Below w.heap.size w w') : w.grownBy w' row := ⟨h.os, h.tape, h.output, h.size, fun i hi _ => h.block i hi⟩

end Go.Proofs.YtfpiokpdpdokjaaDoor
