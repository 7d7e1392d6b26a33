/-
  One step of the css lexer: it reads the code point that the model's decoder finds at the cursor. No statement of the seat is proved here.
-/
import Derived.Test.YtfpiokpdpdokjaaDoorRows
import Derived.WalkKit
import Derived.ProofKit
import Derived.WalkSpells
import Derived.WalkLawsBesides
import Derived.LoopTactic
import Derived.RegionTactic
import Derived.ChangeAlike
import Derived.BigQuiet
import Derived.Deep.QuietTactic
import Derived.Deep.RegionWith
import Derived.Deep.RegionHeld3
import Derived.Lib.OthersKept
import Derived.Lib.Hide
import Derived.Test.YtfpiokpdpdokjaaDoorCss
import Derived.Test.YtfpiokpdpdokjaaDoorShelf
namespace Go.Proofs.YtfpiokpdpdokjaaDoor
open Go.RowKit
set_option linter.unusedVariables false

/-- the code point at i and its width; -1 and 0 at the end -/
def decAt (s : ByteArray) (i : Nat) : Int × Nat := if i < s.size then (((Utf8.decode s i).1 : Int), (Utf8.decode s i).2) else (-1, 0)
theorem ext_get! (s : ByteArray) (pos i : Nat) : (s.extract pos s.size).get! i = s.get! (pos + i) := by
  have hz : (s.extract pos s.size).size = s.size - pos := by simp
  by_cases h : i < s.size - pos
  · rw [get!_at _ i (by rw [hz]; exact h), get!_at s (pos + i) (by omega)]
    simp [ByteArray.getElem_extract]
  · rw [get!_out _ i (by rw [hz]; omega), get!_out s (pos + i) (by omega)]
theorem dec_ext (s : ByteArray) (pos : Nat) (h : pos < s.size) : Lib.decodeGo (s.extract pos s.size) = Utf8.decode s pos := by
  have hz : (s.extract pos s.size).size = s.size - pos := by simp
  unfold Lib.decodeGo
  rw [if_neg (by omega), Lib.decode_at, Lib.decode_at, hz, ext_get!, ext_get!, ext_get!, ext_get!]
  simp only [Nat.sub_zero, Nat.add_zero, Nat.zero_add]
theorem dec_ext_end (s : ByteArray) (pos : Nat) (h : s.size ≤ pos) : Lib.decodeGo (s.extract pos s.size) = (65533, 0) := by
  have hz : (s.extract pos s.size).size = 0 := by simp; omega
  unfold Lib.decodeGo
  rw [if_pos hz]
theorem width_le (s : ByteArray) (pos : Nat) (h : pos < s.size) : 1 ≤ (Utf8.decode s pos).2 ∧ pos + (Utf8.decode s pos).2 ≤ s.size := by
  refine ⟨width_pos s pos h, ?_⟩
  by_cases ha : (s[pos]'h).toNat < 128
  · rw [decode_ascii s pos h ha]; show pos + 1 ≤ s.size; omega
  · exact (high_bytes s pos h (by omega)).1
theorem tabs_gb {g3 g4 p : Nat} {w w' : World} (h : Lib.Utf8Tabs g3 g4 w) (hg : w.grownBy w' (some p)) (h3 : g3 < p) (h4 : g4 < p) (hp : p < w.heap.size) : Lib.Utf8Tabs g3 g4 w' :=
  ⟨fun c hc => (World.cell?_of_block (w := w) (hg.block g3 (by omega) (fun e => by cases e; omega))).trans (h.1 c hc), fun i hi => ⟨(World.cell?_of_block (w := w) (hg.block g4 (by omega) (fun e => by cases e; omega))).trans (h.2 i hi).1, (World.cell?_of_block (w := w) (hg.block g4 (by omega) (fun e => by cases e; omega))).trans (h.2 i hi).2⟩⟩
theorem dri (s : ByteArray) (x W : Nat) (w : World) (ht : Lib.Utf8Tabs 0 1 w) (hx : (Lib.decodeGo s).1 = x) (hW : (Lib.decodeGo s).2 = W) : Calls Tryd.prog 24 #[.string s] w fun e w' => e = .returned (.tuple #[.int .i32 x, .int .i64 W]) ∧ Below w.heap.size w w' := by
  have := Tryd.utf8_DecodeRuneInString s w ht
  rwa [hx, hW] at this

theorem dri_end (s : ByteArray) (w : World) (ht : Lib.Utf8Tabs 0 1 w) (h : Lib.decodeGo s = (65533, 0)) : Calls Tryd.prog 24 #[.string s] w fun e w' => e = .returned (.tuple #[.int .i32 65533, .int .i64 0]) ∧ Below w.heap.size w w' := by
  have := Tryd.utf8_DecodeRuneInString s w ht
  rw [h] at this
  exact this

/-- one step, as plain data -/
def Lx.step (x : Lx) : Lx := { x with cp := (decAt x.s x.cur).1, nl := x.nl + (if (decAt x.s x.cur).1 = 10 then 1 else 0), ln := x.cur - x.st, cur := x.cur + (decAt x.s x.cur).2 }
/-- what a lexer's method that only steps on leaves -/
def Moved (w : World) (p : Nat) (x : Lx) (r : Ending) (w' : World) : Prop := r = .returned (.tuple #[]) ∧ Css w' p x ∧ w.grownBy w' (some p)

set_option maxHeartbeats 1000000 in
theorem css_step0 (p : Nat) (x : Lx) (w : World) (h : Css w p x) (hc : x.cur ≤ x.s.size) (hs : x.s.size ≤ 2097152) (hst : x.st ≤ x.cur) (hn : x.nl ≤ 1099511627776) (ht : Lib.Utf8Tabs 0 1 w) (c W : Nat) (hx : Lib.decodeGo (x.s.extract x.cur x.s.size) = (c, W)) (hW0 : 0 < W) (hW1 : x.cur + W ≤ x.s.size) (hx0 : ((c : Int) == 10) = false) :
    Calls Tryd.prog 21 #[.pointer (some ⟨p, 0, none⟩)] w (Moved w p {x with cp := c, ln := x.cur - x.st, cur := x.cur + W}) := by
  obtain ⟨c0, c10, c17, c18, c19, c20, c21, c32, c33, c35, c36, c37, c38, c39, c40⟩ := h.cells
  clear c0 c17 c18 c19 c20 c21 c38 c39 c40
  have hp := h.lt
  obtain ⟨ra, s, al, lg, mt, ms, ml, nl, cur, cp, st, ln, un, kd, fl⟩ := x
  simp only at *
  have T := Lib.hid (And.intro h (And.intro ht hx))
  clear h ht hx
  have e1 : (0 : Int) ≤ (cur : Int) := by omega
  have e2 : (cur : Int) ≤ (s.size : Int) := by omega
  go_enter Tryd.func21, Tryd.ntmps21
  go_wp2_with fail
  go_region_held3 (fun w' => w'.cell? ⟨p, 10, none⟩ = some (.string s) ∧ w'.cell? ⟨p, 33, none⟩ = some (.int .i64 cur)) (first | go_keep | exact ⟨(hbel.cell (p := ⟨p, 10, none⟩) hp).trans c10, (hbel.cell (p := ⟨p, 33, none⟩) hp).trans c33⟩) (first | (go_at_call 24; refine (dri _ c W w.drew T.out.2.1 (congrArg Prod.fst T.out.2.2) (congrArg Prod.snd T.out.2.2)).mono ?_; rintro e w' ⟨rfl, hbel⟩))
  have h1 : Css w' p ⟨ra, s, al, lg, mt, ms, ml, nl, cur, cp, st, ln, un, kd, fl⟩ := Css.kept (w := w.drew) T.out.1 hbel
  have G1 := Lib.hid (gb_of_below (some p) (w := w.drew) hbel)
  have hp1 := h1.lt
  clear c10 c32 c33 c35 c36 c37
  obtain ⟨c0, c10, c17, c18, c19, c20, c21, c32, c33, c35, c36, c37, c38, c39, c40⟩ := h1.cells
  clear c0 c17 c18 c19 c20 c21 c38 c39 c40 hbel
  have f32 := h1.free 32
  have f35 := h1.free 35
  have f37 := h1.free 37
  have f33 := h1.free 33
  have H1 := Lib.hid h1
  clear h1
  go_wp2
  go_region
  go_wp2
  go_end0
  have K := ((H1.out.set_cp c).set_ln (cur - st)).set_cur (cur + W)
  rw [show ((cur - st : Nat) : Int) = (cur : Int) - (st : Int) by omega] at K
  exact ⟨rfl, K.drew, gb_drew ((gb_set (gb_set (gb_set (gb_trans (gb_drew (gb_refl w _)) G1.out) _ _ _) _ _ _) _ _ _))⟩
set_option maxHeartbeats 1000000 in
theorem css_step1 (p : Nat) (x : Lx) (w : World) (h : Css w p x) (hc : x.cur ≤ x.s.size) (hs : x.s.size ≤ 2097152) (hst : x.st ≤ x.cur) (hn : x.nl ≤ 1099511627776) (ht : Lib.Utf8Tabs 0 1 w) (W : Nat) (hx : Lib.decodeGo (x.s.extract x.cur x.s.size) = (10, W)) (hW0 : 0 < W) (hW1 : x.cur + W ≤ x.s.size) :
    Calls Tryd.prog 21 #[.pointer (some ⟨p, 0, none⟩)] w (Moved w p {x with nl := x.nl + 1, cp := 10, ln := x.cur - x.st, cur := x.cur + W}) := by
  obtain ⟨c0, c10, c17, c18, c19, c20, c21, c32, c33, c35, c36, c37, c38, c39, c40⟩ := h.cells
  clear c0 c17 c18 c19 c20 c21 c38 c39 c40
  have hp := h.lt
  obtain ⟨ra, s, al, lg, mt, ms, ml, nl, cur, cp, st, ln, un, kd, fl⟩ := x
  simp only at *
  have T := Lib.hid (And.intro h (And.intro ht hx))
  clear h ht hx
  have e1 : (0 : Int) ≤ (cur : Int) := by omega
  have e2 : (cur : Int) ≤ (s.size : Int) := by omega
  go_enter Tryd.func21, Tryd.ntmps21
  go_wp2_with fail
  go_region_held3 (fun w' => w'.cell? ⟨p, 10, none⟩ = some (.string s) ∧ w'.cell? ⟨p, 33, none⟩ = some (.int .i64 cur)) (first | go_keep | exact ⟨(hbel.cell (p := ⟨p, 10, none⟩) hp).trans c10, (hbel.cell (p := ⟨p, 33, none⟩) hp).trans c33⟩) (first | (go_at_call 24; refine (dri _ 10 W w.drew T.out.2.1 (congrArg Prod.fst T.out.2.2) (congrArg Prod.snd T.out.2.2)).mono ?_; rintro e w' ⟨rfl, hbel⟩))
  have h1 : Css w' p ⟨ra, s, al, lg, mt, ms, ml, nl, cur, cp, st, ln, un, kd, fl⟩ := Css.kept (w := w.drew) T.out.1 hbel
  have G1 := Lib.hid (gb_of_below (some p) (w := w.drew) hbel)
  have hp1 := h1.lt
  clear c10 c32 c33 c35 c36 c37
  obtain ⟨c0, c10, c17, c18, c19, c20, c21, c32, c33, c35, c36, c37, c38, c39, c40⟩ := h1.cells
  clear c0 c17 c18 c19 c20 c21 c38 c39 c40 hbel
  have f32 := h1.free 32
  have f35 := h1.free 35
  have f37 := h1.free 37
  have f33 := h1.free 33
  have H1 := Lib.hid h1
  clear h1
  go_wp2
  go_region
  go_wp2
  go_end0
  have K := (((H1.out.set_nl (nl + 1)).set_cp 10).set_ln (cur - st)).set_cur (cur + W)
  rw [show ((cur - st : Nat) : Int) = (cur : Int) - (st : Int) by omega] at K
  exact ⟨rfl, K.drew, gb_drew ((gb_set (gb_set (gb_set (gb_set (gb_trans (gb_drew (gb_refl w _)) G1.out) _ _ _) _ _ _) _ _ _) _ _ _))⟩
set_option maxHeartbeats 1000000 in
theorem css_step2 (p : Nat) (x : Lx) (w : World) (h : Css w p x) (hc : x.cur ≤ x.s.size) (hs : x.s.size ≤ 2097152) (hst : x.st ≤ x.cur) (hn : x.nl ≤ 1099511627776) (ht : Lib.Utf8Tabs 0 1 w) (hx : Lib.decodeGo (x.s.extract x.cur x.s.size) = (65533, 0)) :
    Calls Tryd.prog 21 #[.pointer (some ⟨p, 0, none⟩)] w (Moved w p {x with cp := -1, ln := x.cur - x.st}) := by
  obtain ⟨c0, c10, c17, c18, c19, c20, c21, c32, c33, c35, c36, c37, c38, c39, c40⟩ := h.cells
  clear c0 c17 c18 c19 c20 c21 c38 c39 c40
  have hp := h.lt
  obtain ⟨ra, s, al, lg, mt, ms, ml, nl, cur, cp, st, ln, un, kd, fl⟩ := x
  simp only at *
  have T := Lib.hid (And.intro h (And.intro ht hx))
  clear h ht hx
  have e1 : (0 : Int) ≤ (cur : Int) := by omega
  have e2 : (cur : Int) ≤ (s.size : Int) := by omega
  go_enter Tryd.func21, Tryd.ntmps21
  go_wp2_with fail
  go_region_held3 (fun w' => w'.cell? ⟨p, 10, none⟩ = some (.string s) ∧ w'.cell? ⟨p, 33, none⟩ = some (.int .i64 cur)) (first | go_keep | exact ⟨(hbel.cell (p := ⟨p, 10, none⟩) hp).trans c10, (hbel.cell (p := ⟨p, 33, none⟩) hp).trans c33⟩) (first | (go_at_call 24; refine (dri_end _ w.drew T.out.2.1 T.out.2.2).mono ?_; rintro e w' ⟨rfl, hbel⟩))
  have h1 : Css w' p ⟨ra, s, al, lg, mt, ms, ml, nl, cur, cp, st, ln, un, kd, fl⟩ := Css.kept (w := w.drew) T.out.1 hbel
  have G1 := Lib.hid (gb_of_below (some p) (w := w.drew) hbel)
  have hp1 := h1.lt
  clear c10 c32 c33 c35 c36 c37
  obtain ⟨c0, c10, c17, c18, c19, c20, c21, c32, c33, c35, c36, c37, c38, c39, c40⟩ := h1.cells
  clear c0 c17 c18 c19 c20 c21 c38 c39 c40 hbel
  have f32 := h1.free 32
  have f35 := h1.free 35
  have f37 := h1.free 37
  have f33 := h1.free 33
  have H1 := Lib.hid h1
  clear h1
  go_wp2
  go_region
  go_wp2
  go_end0
  have K := ((H1.out.set_cp (-1)).set_ln (cur - st)).set_cur cur
  rw [show ((cur - st : Nat) : Int) = (cur : Int) - (st : Int) by omega] at K
  exact ⟨rfl, K.drew, gb_drew ((gb_set (gb_set (gb_set (gb_trans (gb_drew (gb_refl w _)) G1.out) _ _ _) _ _ _) _ _ _))⟩
theorem css_step (p : Nat) (x : Lx) (w : World) (h : Css w p x) (hc : x.cur ≤ x.s.size) (hs : x.s.size ≤ 2097152) (hst : x.st ≤ x.cur) (hn : x.nl ≤ 1099511627776) (ht : Lib.Utf8Tabs 0 1 w) :
    Calls Tryd.prog 21 #[.pointer (some ⟨p, 0, none⟩)] w (Moved w p x.step) := by
  by_cases hl : x.cur < x.s.size
  · have hw := width_le x.s x.cur hl
    have hd : decAt x.s x.cur = (((Utf8.decode x.s x.cur).1 : Int), (Utf8.decode x.s x.cur).2) := by unfold decAt; rw [if_pos hl]
    by_cases h10 : (Utf8.decode x.s x.cur).1 = 10
    · have e : x.step = {x with nl := x.nl + 1, cp := 10, ln := x.cur - x.st, cur := x.cur + (Utf8.decode x.s x.cur).2} := by
        unfold Lx.step; rw [hd, h10]; rfl
      rw [e]
      exact css_step1 p x w h hc hs hst hn ht _ (by rw [dec_ext _ _ hl]; exact Prod.ext h10 rfl) hw.1 hw.2
    · have e : x.step = {x with cp := (Utf8.decode x.s x.cur).1, ln := x.cur - x.st, cur := x.cur + (Utf8.decode x.s x.cur).2} := by
        unfold Lx.step; rw [hd]; simp only; rw [if_neg (by omega), Nat.add_zero]
      rw [e]
      exact css_step0 p x w h hc hs hst hn ht _ _ (dec_ext _ _ hl) hw.1 hw.2 (by simp; omega)
  · have e : x.step = {x with cp := -1, ln := x.cur - x.st} := by
      unfold Lx.step decAt; rw [if_neg hl]; rfl
    rw [e]
    exact css_step2 p x w h hc hs hst hn ht (dec_ext_end _ _ (by omega))
end Go.Proofs.YtfpiokpdpdokjaaDoor
