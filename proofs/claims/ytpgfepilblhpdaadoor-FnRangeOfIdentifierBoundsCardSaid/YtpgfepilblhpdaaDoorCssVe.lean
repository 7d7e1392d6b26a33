/-
  Escapes of the css lexer: isValidEscape and consumeEscape. No statement of the seat is proved here.
-/
import Derived.Test.YtpgfepilblhpdaaDoorCssFns
namespace Go.Proofs.YtpgfepilblhpdaaDoor
open Go.RowKit
set_option linter.unusedVariables false
/-- does a valid escape begin at q? -/
def vEsc (s : ByteArray) (q : Nat) : Bool := decide ((decAt s q).1 = 92) && !isNL (decAt s (q + (decAt s q).2)).1
theorem vesc_no (p : Nat) (x : Lx) (b q : Nat) (w : World) (h : Lex w p x b q) (hc : (decAt x.s q).1 ≠ 92) : Calls Tryd.prog 31 #[.pointer (some ⟨p, 0, none⟩)] w fun r w' => r = .returned (.bool false) ∧ Below w.heap.size w w' := by
  obtain ⟨c10, c33, c35, c36, c37⟩ := h.cells
  generalize (decAt x.s q).1 = c at *
  have t : (c == 92) = false := beq_eq_false_iff_ne.2 hc
  clear h
  go_enter Tryd.func31, Tryd.ntmps31
  go_wp2
  go_ret
  exact ⟨rfl, Below.refl _ _⟩
theorem vesc_yes (p : Nat) (x : Lx) (b q : Nat) (w : World) (h : Lex w p x b q) (hc : (decAt x.s q).1 = 92) : Calls Tryd.prog 31 #[.pointer (some ⟨p, 0, none⟩)] w fun r w' => r = .returned (.bool (!isNL (decAt x.s (q + (decAt x.s q).2)).1)) ∧ Below w.heap.size w w' := by
  obtain ⟨c10, c33, c35, c36, c37⟩ := h.cells
  rw [hc] at c35
  have hle := decAt_le x.s q h.hq
  have hsz := h.hsz
  have hp := h.lt
  have ht := h.tabs
  obtain ⟨n, hn⟩ : ∃ n, q + (decAt x.s q).2 = n := ⟨_, rfl⟩
  rw [hn] at c33 hle ⊢
  clear h hc hn c36 c37
  generalize x.s = s at *
  have e1 : (0 : Int) ≤ (n : Int) := by omega
  have e2 : (n : Int) ≤ (s.size : Int) := by omega
  rcases (show (s.size ≤ n) ∨ n < s.size by omega) with hl | hl
  · rw [decAt_end s n hl]
    have HD := Lib.hid (And.intro ht (dec_ext_end s n hl))
    clear ht
    go_enter Tryd.func31, Tryd.ntmps31
    go_wp2_with fail
    go_region_held3 (fun w' => w'.cell? ⟨p, 10, none⟩ = some (.string s) ∧ w'.cell? ⟨p, 33, none⟩ = some (.int .i64 n)) (first | go_keep | exact ⟨(hbel.cell (p := ⟨p, 10, none⟩) hp).trans c10, (hbel.cell (p := ⟨p, 33, none⟩) hp).trans c33⟩) (first | (go_at_call 24; refine (dri_end _ w.drew HD.out.1 HD.out.2).mono ?_; rintro e w' ⟨rfl, hbel⟩))
    go_wp2_with (go_at_call 30; refine (nl_any _ _).mono ?_; rintro e w1 ⟨rfl, rfl⟩)
    go_ret
    exact ⟨rfl, ((Below.refl w.heap.size w).drew).trans hbel⟩
  · obtain ⟨c, W, hd⟩ : ∃ c W, Utf8.decode s n = (c, W) := ⟨_, _, rfl⟩
    rw [show (decAt s n).1 = (c : Int) by unfold decAt; rw [if_pos hl, hd]]
    have HD := Lib.hid (And.intro ht ((dec_ext s n hl).trans hd))
    clear ht hd
    go_enter Tryd.func31, Tryd.ntmps31
    go_wp2_with fail
    go_region_held3 (fun w' => w'.cell? ⟨p, 10, none⟩ = some (.string s) ∧ w'.cell? ⟨p, 33, none⟩ = some (.int .i64 n)) (first | go_keep | exact ⟨(hbel.cell (p := ⟨p, 10, none⟩) hp).trans c10, (hbel.cell (p := ⟨p, 33, none⟩) hp).trans c33⟩) (first | (go_at_call 24; refine (dri _ c W w.drew HD.out.1 (congrArg Prod.fst HD.out.2) (congrArg Prod.snd HD.out.2)).mono ?_; rintro e w' ⟨rfl, hbel⟩))
    go_wp2_with (go_at_call 30; refine (nl_any _ _).mono ?_; rintro e w1 ⟨rfl, rfl⟩)
    go_ret
    exact ⟨rfl, ((Below.refl w.heap.size w).drew).trans hbel⟩
theorem vesc_any (p : Nat) (x : Lx) (b q : Nat) (w : World) (h : Lex w p x b q) : Calls Tryd.prog 31 #[.pointer (some ⟨p, 0, none⟩)] w fun r w' => r = .returned (.bool (vEsc x.s q)) ∧ Below w.heap.size w w' := by
  unfold vEsc
  by_cases hc : (decAt x.s q).1 = 92
  · have := vesc_yes p x b q w h hc
    simpa [hc] using this
  · have := vesc_no p x b q w h hc
    simpa [hc] using this
/-- what an escape leaves: the lexer stands behind it; some code point comes back -/
def Esc (w : World) (p : Nat) (x : Lx) (b q : Nat) (r : Ending) (w' : World) : Prop := ∃ (v : Int) (q' : Nat), r = .returned (.int .i32 v) ∧ -2147483648 ≤ v ∧ v ≤ 2147483647 ∧ q + 1 ≤ q' ∧ Lex w' p x b q' ∧ w.grownBy w' (some p)
end Go.Proofs.YtpgfepilblhpdaaDoor
