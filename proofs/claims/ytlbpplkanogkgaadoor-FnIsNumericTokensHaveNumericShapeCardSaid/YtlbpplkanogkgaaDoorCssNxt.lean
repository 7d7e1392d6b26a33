/-
  What a token of the css lexer is: the state that next leaves. No statement of the seat is proved here.
-/
import Derived.Test.YtlbpplkanogkgaaDoorCssNum
import Derived.Test.YtlbpplkanogkgaaDoorCssMk
namespace Go.Proofs.YtlbpplkanogkgaaDoor
open Go.RowKit
set_option linter.unusedVariables false
/-- the lexer at the head of a token that begins at q -/
def reset (x : Lx) (q : Nat) : Lx := {x with st := q, un := 0, kd := 0, fl := 0}
/-- kinds that a text without slashes, backslashes, quotes and opening parentheses gives (the end apart) -/
def okKd (kd : Nat) : Bool := decide (kd < 39) && !decide (kd = 0 ∨ kd = 2 ∨ kd = 3 ∨ kd = 24 ∨ kd = 27 ∨ kd = 33 ∨ kd = 36 ∨ kd = 37)
def numKd (kd : Nat) : Bool := decide (kd = 26 ∨ kd = 30 ∨ kd = 34)
def TokP (s : ByteArray) (q q' kd un : Nat) : Prop := (kd = 0 ∧ q = s.size ∧ q' = q ∧ un = 0) ∨ (q < q' ∧ q' ≤ s.size ∧ okKd kd = true ∧ ((numKd kd = false ∧ un = 0) ∨ (numKd kd = true ∧ NumTo s q q q' kd un 0)))
def Tok (w : World) (p : Nat) (x : Lx) (b q : Nat) (r : Ending) (w' : World) : Prop := ∃ q' kd un fl : Nat, r = .returned (.tuple #[]) ∧ TokP x.s q q' kd un ∧ Lex w' p {x with st := q, un := un, kd := kd, fl := fl} b q' ∧ w.grownBy w' (some p)
theorem tok_reset {w : World} {p : Nat} {x : Lx} {b q : Nat} (h : Lex w p x b q) : Lex (((((w.setCell ⟨p, 36, none⟩ (.int .i32 q)).setCell ⟨p, 37, none⟩ (.int .i32 0)).setCell ⟨p, 38, none⟩ (.int .u16 0)).setCell ⟨p, 39, none⟩ (.int .u8 0)).setCell ⟨p, 40, none⟩ (.int .u8 0)) p (reset x q) b q := by
  have hc := ((((h.css.set_st q).set_ln 0).set_un 0).set_kd 0).set_fl 0
  have hg := gb_set (gb_set (gb_set (gb_set (gb_set (gb_refl w (some p)) 36 none (.int .i32 q)) 37 none (.int .i32 0)) 38 none (.int .u16 0)) 39 none (.int .u8 0)) 40 none (.int .u8 0)
  have e : ({x.at b q with st := q, ln := 0, un := 0, kd := 0, fl := 0} : Lx) = (reset x q).at b q := by
    unfold reset Lx.at
    simp only
    congr 1
    omega
  have hp := h.p1
  refine ⟨?_, h.hq, Nat.le_refl _, h.hsz, h.hcb, tabs_gbn h.tabs hg (by simp; omega) (by simp; omega), h.p1⟩
  rw [← e]
  exact hc
theorem tok_gb {a w : World} {p : Nat} (h : a.grownBy w (some p)) (q : Nat) : a.grownBy (((((w.setCell ⟨p, 36, none⟩ (.int .i32 q)).setCell ⟨p, 37, none⟩ (.int .i32 0)).setCell ⟨p, 38, none⟩ (.int .u16 0)).setCell ⟨p, 39, none⟩ (.int .u8 0)).setCell ⟨p, 40, none⟩ (.int .u8 0)) (some p) :=
  gb_set (gb_set (gb_set (gb_set (gb_set h 36 none (.int .i32 q)) 37 none (.int .i32 0)) 38 none (.int .u16 0)) 39 none (.int .u8 0)) 40 none (.int .u8 0)
theorem cell_any {w : World} {p : Nat} {x : Lx} {b q : Nat} (h : Lex w p x b q) (i : Nat) (hi : i < 41) : ∃ v, w.cell? ⟨p, i, none⟩ = some v := h.css.some i hi
theorem tokP_plain {s : ByteArray} {q q' kd : Nat} (h1 : q < q') (h2 : q' ≤ s.size) (h3 : okKd kd = true) (h4 : numKd kd = false) : TokP s q q' kd 0 := .inr ⟨h1, h2, h3, .inl ⟨h4, rfl⟩⟩
/-- the kind is stored last -/
theorem tok_done {w w2 : World} {p : Nat} {x y : Lx} {b q q' : Nat} (h : Lex w2 p y b q') (hg : w.grownBy w2 (some p)) (kd : Nat) (hP : TokP x.s q q' kd y.un) (hy : y = {x with st := q, un := y.un, kd := y.kd, fl := y.fl} := by rfl) :
    Tok w p x b q (.returned (.tuple #[])) (w2.setCell ⟨p, 39, none⟩ (.int .u8 kd)) := by
  have hc := h.css.set_kd kd
  have hg2 := gb_set hg 39 none (.int .u8 kd)
  have hp := h.p1
  refine ⟨q', kd, y.un, y.fl, rfl, hP, ?_, hg2⟩
  have e : ({y.at b q' with kd := kd} : Lx) = ({x with st := q, un := y.un, kd := kd, fl := y.fl} : Lx).at b q' := by
    rw [hy]; rfl
  have hs : y.s = x.s := by rw [hy]
  have hst : y.st = q := by rw [hy]
  refine ⟨by rw [← e]; exact hc, by rw [← hs]; exact h.hq, by rw [← hst]; exact h.hst, by rw [← hs]; exact h.hsz, by rw [← hs]; exact h.hcb, tabs_gbn h.tabs (gb_set (gb_refl w2 (some p)) 39 none (.int .u8 kd)) (by simp; omega) (by simp; omega), h.p1⟩
end Go.Proofs.YtlbpplkanogkgaaDoor
