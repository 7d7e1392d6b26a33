/-
  One step of the js lexer. No statement of the seat is proved here.
-/
import Derived.Test.YtlbpplkanogkgaaDoorJsLx
import Derived.Test.YtlbpplkanogkgaaDoorCssStep
namespace Go.Proofs.YtlbpplkanogkgaaDoor
open Go.RowKit
set_option linter.unusedVariables false
set_option maxHeartbeats 1000000 in
theorem js_step0 (p : Nat) (s : ByteArray) (c : Nat) (e : Int) (n : Nat) (cp : Int) (w : World) (h : Js w p s c e n cp) (hc : c ≤ s.size) (hs : s.size ≤ 1048576) (hn : n ≤ 1099511627776) (ht : Lib.Utf8Tabs 0 1 w) (x W : Nat) (hx : Lib.decodeGo (s.extract c s.size) = (x, W)) (hW0 : 0 < W) (hW1 : c + W ≤ s.size) (hx0 : ((x : Int) == 10) = false) :
    Calls Tryd.prog 53 #[.pointer (some ⟨p, 0, none⟩)] w fun r w' => r = .returned (.tuple #[]) ∧ Js w' p s (c + W : Nat) c n x ∧ w.grownBy w' (some p) := by
  obtain ⟨c1, c2, c3, c4, c5⟩ := h.facts
  have hp := h.lt
  have T := Lib.hid (And.intro h (And.intro ht hx))
  clear h ht hx
  have e1 : (0 : Int) ≤ (c : Int) := by omega
  have e2 : (c : Int) ≤ (s.size : Int) := by omega
  go_enter Tryd.func53, Tryd.ntmps53
  go_wp2_with fail
  go_region_held3 (fun w' => w'.cell? ⟨p, 14, none⟩ = some (.string s) ∧ w'.cell? ⟨p, 52, none⟩ = some (.int .i64 c)) (first | go_keep | exact ⟨(hbel.cell (p := ⟨p, 14, none⟩) hp).trans c1, (hbel.cell (p := ⟨p, 52, none⟩) hp).trans c2⟩) (first | (go_at_call 62; refine (dri _ x W w.drew T.out.2.1 (congrArg Prod.fst T.out.2.2) (congrArg Prod.snd T.out.2.2)).mono ?_; rintro e w' ⟨rfl, hbel⟩))
  have h1 : Js w' p s c e n cp := Blk.kept (w := w.drew) T.out.1 hbel
  have G1 := Lib.hid (gb_of_below (some p) (w := w.drew) hbel)
  have hp1 := h1.lt
  clear c1 c2 c3 c4 c5
  obtain ⟨d1, d2, d3, d4, d5⟩ := h1.facts
  have f66 := h1.free 66
  have f55 := h1.free 55
  have f54 := h1.free 54
  have f52 := h1.free 52
  have H1 := Lib.hid h1
  clear h1 hbel
  go_wp2
  go_end0
  have K1 := H1.out.set 66 (.int .i32 x)
  rw [jset66] at K1
  have K2 := K1.set 54 (.int .i64 c)
  rw [jset54] at K2
  have K9 := K2.set 52 (.int .i64 (c + W))
  rw [jset52] at K9
  exact ⟨rfl, K9, (gb_set (gb_set (gb_set (gb_trans (gb_drew (gb_refl w _)) G1.out) _ _ _) _ _ _) _ _ _)⟩
set_option maxHeartbeats 1000000 in
theorem js_step1 (p : Nat) (s : ByteArray) (c : Nat) (e : Int) (n : Nat) (cp : Int) (w : World) (h : Js w p s c e n cp) (hc : c ≤ s.size) (hs : s.size ≤ 1048576) (hn : n ≤ 1099511627776) (ht : Lib.Utf8Tabs 0 1 w) (W : Nat) (hx : Lib.decodeGo (s.extract c s.size) = (10, W)) (hW0 : 0 < W) (hW1 : c + W ≤ s.size) :
    Calls Tryd.prog 53 #[.pointer (some ⟨p, 0, none⟩)] w fun r w' => r = .returned (.tuple #[]) ∧ Js w' p s (c + W : Nat) c (n + 1 : Nat) 10 ∧ w.grownBy w' (some p) := by
  obtain ⟨c1, c2, c3, c4, c5⟩ := h.facts
  have hp := h.lt
  have T := Lib.hid (And.intro h (And.intro ht hx))
  clear h ht hx
  have e1 : (0 : Int) ≤ (c : Int) := by omega
  have e2 : (c : Int) ≤ (s.size : Int) := by omega
  go_enter Tryd.func53, Tryd.ntmps53
  go_wp2_with fail
  go_region_held3 (fun w' => w'.cell? ⟨p, 14, none⟩ = some (.string s) ∧ w'.cell? ⟨p, 52, none⟩ = some (.int .i64 c)) (first | go_keep | exact ⟨(hbel.cell (p := ⟨p, 14, none⟩) hp).trans c1, (hbel.cell (p := ⟨p, 52, none⟩) hp).trans c2⟩) (first | (go_at_call 62; refine (dri _ 10 W w.drew T.out.2.1 (congrArg Prod.fst T.out.2.2) (congrArg Prod.snd T.out.2.2)).mono ?_; rintro e w' ⟨rfl, hbel⟩))
  have h1 : Js w' p s c e n cp := Blk.kept (w := w.drew) T.out.1 hbel
  have G1 := Lib.hid (gb_of_below (some p) (w := w.drew) hbel)
  have hp1 := h1.lt
  clear c1 c2 c3 c4 c5
  obtain ⟨d1, d2, d3, d4, d5⟩ := h1.facts
  have f66 := h1.free 66
  have f55 := h1.free 55
  have f54 := h1.free 54
  have f52 := h1.free 52
  have H1 := Lib.hid h1
  clear h1 hbel
  go_wp2
  go_end0
  have K0 := H1.out.set 55 (.int .i64 (n + 1))
  rw [jset55] at K0
  have K1 := K0.set 66 (.int .i32 10)
  rw [jset66] at K1
  have K2 := K1.set 54 (.int .i64 c)
  rw [jset54] at K2
  have K9 := K2.set 52 (.int .i64 (c + W))
  rw [jset52] at K9
  exact ⟨rfl, K9, (gb_set (gb_set (gb_set (gb_set (gb_trans (gb_drew (gb_refl w _)) G1.out) _ _ _) _ _ _) _ _ _) _ _ _)⟩
set_option maxHeartbeats 1000000 in
theorem js_step2 (p : Nat) (s : ByteArray) (c : Nat) (e : Int) (n : Nat) (cp : Int) (w : World) (h : Js w p s c e n cp) (hc : c ≤ s.size) (hs : s.size ≤ 1048576) (hn : n ≤ 1099511627776) (ht : Lib.Utf8Tabs 0 1 w) (hx : Lib.decodeGo (s.extract c s.size) = (65533, 0)) :
    Calls Tryd.prog 53 #[.pointer (some ⟨p, 0, none⟩)] w fun r w' => r = .returned (.tuple #[]) ∧ Js w' p s c c n (-1) ∧ w.grownBy w' (some p) := by
  obtain ⟨c1, c2, c3, c4, c5⟩ := h.facts
  have hp := h.lt
  have T := Lib.hid (And.intro h (And.intro ht hx))
  clear h ht hx
  have e1 : (0 : Int) ≤ (c : Int) := by omega
  have e2 : (c : Int) ≤ (s.size : Int) := by omega
  go_enter Tryd.func53, Tryd.ntmps53
  go_wp2_with fail
  go_region_held3 (fun w' => w'.cell? ⟨p, 14, none⟩ = some (.string s) ∧ w'.cell? ⟨p, 52, none⟩ = some (.int .i64 c)) (first | go_keep | exact ⟨(hbel.cell (p := ⟨p, 14, none⟩) hp).trans c1, (hbel.cell (p := ⟨p, 52, none⟩) hp).trans c2⟩) (first | (go_at_call 62; refine (dri_end _ w.drew T.out.2.1 T.out.2.2).mono ?_; rintro e w' ⟨rfl, hbel⟩))
  have h1 : Js w' p s c e n cp := Blk.kept (w := w.drew) T.out.1 hbel
  have G1 := Lib.hid (gb_of_below (some p) (w := w.drew) hbel)
  have hp1 := h1.lt
  clear c1 c2 c3 c4 c5
  obtain ⟨d1, d2, d3, d4, d5⟩ := h1.facts
  have f66 := h1.free 66
  have f55 := h1.free 55
  have f54 := h1.free 54
  have f52 := h1.free 52
  have H1 := Lib.hid h1
  clear h1 hbel
  go_wp2
  go_end0
  have K1 := H1.out.set 66 (.int .i32 (-1))
  rw [jset66] at K1
  have K2 := K1.set 54 (.int .i64 c)
  rw [jset54] at K2
  have K9 := K2.set 52 (.int .i64 c)
  rw [jset52] at K9
  exact ⟨rfl, K9, (gb_set (gb_set (gb_set (gb_trans (gb_drew (gb_refl w _)) G1.out) _ _ _) _ _ _) _ _ _)⟩
end Go.Proofs.YtlbpplkanogkgaaDoor
