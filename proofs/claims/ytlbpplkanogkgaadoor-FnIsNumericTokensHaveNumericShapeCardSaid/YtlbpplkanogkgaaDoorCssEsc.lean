/-
  Escapes of the css lexer: isValidEscape and consumeEscape. No statement of the seat is proved here.
-/
import Derived.Test.YtlbpplkanogkgaaDoorCssFns
namespace Go.Proofs.YtlbpplkanogkgaaDoor
open Go.RowKit
set_option linter.unusedVariables false
/-- does a valid escape begin at q? -/
def vEsc (s : ByteArray) (q : Nat) : Bool := decide ((decAt s q).1 = 92) && !isNL (decAt s (q + (decAt s q).2)).1
theorem vesc_no (p : Nat) (x : Lx) (b q : Nat) (w : World) (h : Lex w p x b q) (hc : (decAt x.s q).1 ≠ 92) : Calls Tryd.prog 64 #[.pointer (some ⟨p, 0, none⟩)] w fun r w' => r = .returned (.bool false) ∧ Below w.heap.size w w' := by
  obtain ⟨c10, c33, c35, c36, c37⟩ := h.cells
  generalize (decAt x.s q).1 = c at *
  have t : (c == 92) = false := beq_eq_false_iff_ne.2 hc
  clear h
  go_enter Tryd.func64, Tryd.ntmps64
  go_wp2
  go_ret
  exact ⟨rfl, Below.refl _ _⟩
theorem vesc_yes (p : Nat) (x : Lx) (b q : Nat) (w : World) (h : Lex w p x b q) (hc : (decAt x.s q).1 = 92) : Calls Tryd.prog 64 #[.pointer (some ⟨p, 0, none⟩)] w fun r w' => r = .returned (.bool (!isNL (decAt x.s (q + (decAt x.s q).2)).1)) ∧ Below w.heap.size w w' := by
  obtain ⟨c10, c33, c35, c36, c37⟩ := h.cells
  rw [hc] at c35
  have hle := decAt_le x.s q h.hq
  have hsz := h.hsz
  have hp := h.lt
  have ht := h.tabs
  obtain ⟨n, hn⟩ : ∃ n, q + (decAt x.s q).2 = n := ⟨_, rfl⟩
  rw [hn] at c33 hle ⊢
  clear h hc hn c36 c37
  generalize x.s = s at *
  have e1 : (0 : Int) ≤ (n : Int) := by omega
  have e2 : (n : Int) ≤ (s.size : Int) := by omega
  rcases (show (s.size ≤ n) ∨ n < s.size by omega) with hl | hl
  · rw [decAt_end s n hl]
    have HD := Lib.hid (And.intro ht (dec_ext_end s n hl))
    clear ht
    go_enter Tryd.func64, Tryd.ntmps64
    go_wp2_with fail
    go_region_held3 (fun w' => w'.cell? ⟨p, 10, none⟩ = some (.string s) ∧ w'.cell? ⟨p, 33, none⟩ = some (.int .i64 n)) (first | go_keep | exact ⟨(hbel.cell (p := ⟨p, 10, none⟩) hp).trans c10, (hbel.cell (p := ⟨p, 33, none⟩) hp).trans c33⟩) (first | (go_at_call 62; refine (dri_end _ w.drew HD.out.1 HD.out.2).mono ?_; rintro e w' ⟨rfl, hbel⟩))
    go_wp2_with (go_at_call 81; refine (nl_any _ _).mono ?_; rintro e w1 ⟨rfl, rfl⟩)
    go_ret
    exact ⟨rfl, ((Below.refl w.heap.size w).drew).trans hbel⟩
  · obtain ⟨c, W, hd⟩ : ∃ c W, Utf8.decode s n = (c, W) := ⟨_, _, rfl⟩
    rw [show (decAt s n).1 = (c : Int) by unfold decAt; rw [if_pos hl, hd]]
    have HD := Lib.hid (And.intro ht ((dec_ext s n hl).trans hd))
    clear ht hd
    go_enter Tryd.func64, Tryd.ntmps64
    go_wp2_with fail
    go_region_held3 (fun w' => w'.cell? ⟨p, 10, none⟩ = some (.string s) ∧ w'.cell? ⟨p, 33, none⟩ = some (.int .i64 n)) (first | go_keep | exact ⟨(hbel.cell (p := ⟨p, 10, none⟩) hp).trans c10, (hbel.cell (p := ⟨p, 33, none⟩) hp).trans c33⟩) (first | (go_at_call 62; refine (dri _ c W w.drew HD.out.1 (congrArg Prod.fst HD.out.2) (congrArg Prod.snd HD.out.2)).mono ?_; rintro e w' ⟨rfl, hbel⟩))
    go_wp2_with (go_at_call 81; refine (nl_any _ _).mono ?_; rintro e w1 ⟨rfl, rfl⟩)
    go_ret
    exact ⟨rfl, ((Below.refl w.heap.size w).drew).trans hbel⟩
theorem vesc_any (p : Nat) (x : Lx) (b q : Nat) (w : World) (h : Lex w p x b q) : Calls Tryd.prog 64 #[.pointer (some ⟨p, 0, none⟩)] w fun r w' => r = .returned (.bool (vEsc x.s q)) ∧ Below w.heap.size w w' := by
  unfold vEsc
  by_cases hc : (decAt x.s q).1 = 92
  · have := vesc_yes p x b q w h hc
    simpa [hc] using this
  · have := vesc_no p x b q w h hc
    simpa [hc] using this
/-- what an escape leaves: the lexer stands behind it; some code point comes back -/
def Esc (w : World) (p : Nat) (x : Lx) (b q : Nat) (r : Ending) (w' : World) : Prop := ∃ (v : Int) (q' : Nat), r = .returned (.int .i32 v) ∧ -2147483648 ≤ v ∧ v ≤ 2147483647 ∧ q + 1 ≤ q' ∧ Lex w' p x b q' ∧ w.grownBy w' (some p)
theorem hex_facts (c : Int) : 0 ≤ (hexOf c).1 ∧ (hexOf c).1 ≤ 15 := by
  unfold hexOf
  repeat' split
  all_goals (simp only; omega)
/-- hexadecimal digits read so far -/
def ERel (w : World) (p : Nat) (x : Lx) (b q : Nat) (k : Nat) (v : Int) (wr : World) : Prop := 0 ≤ v ∧ v < (16 : Int) ^ (k + 1) ∧ ∃ q', q + 1 ≤ q' ∧ Lex wr p x b q' ∧ w.grownBy wr (some p)
set_option maxHeartbeats 4000000 in
theorem esc_any (p : Nat) (x : Lx) (b q : Nat) (w : World) (h : Lex w p x b q) (hc : (decAt x.s q).1 = 92) : Calls Tryd.prog 67 #[.pointer (some ⟨p, 0, none⟩)] w (Esc w p x b q) := by
  obtain ⟨hlt, hby, hW⟩ := decAt_small x.s q hc (by omega) (by omega)
  have h1 := lex_step p x b q w h
  rw [hW] at h1
  have H1 := Lib.hid h1
  clear h1 h hc hby hW
  go_enter Tryd.func67, Tryd.ntmps67
  go_wp2_with fail
  refine H1.out.mono ?_
  rintro e w1 ⟨rfl, l1, g1⟩
  obtain ⟨c10, c33, c35, c36, c37⟩ := l1.cells
  have rg := decAt_range x.s (q + 1)
  obtain ⟨c, hcq⟩ : ∃ c, (decAt x.s (q + 1)).1 = c := ⟨_, rfl⟩
  rw [hcq] at c35 rg
  have hf := hex_facts c
  have L1 := Lib.hid (And.intro l1 (And.intro g1 hcq))
  clear l1 g1 hcq c10 c33 c36 c37
  go_wp2_with fail
  cases hx : (hexOf c).2
  · refine (hex_any c _).mono ?_
    rintro e w2 ⟨rfl, rfl⟩
    rw [hx]
    clear hx
    by_cases he : c = -1
    · subst he
      go_wp2_with fail
      go_ret
      exact ⟨65533, q + 1, rfl, by omega, by omega, by omega, L1.out.1, L1.out.2.1⟩
    · have t : (c == -1) = false := beq_eq_false_iff_ne.2 he
      go_wp2_with fail
      refine (lex_step p x b (q + 1) _ L1.out.1).mono ?_
      rintro e w3 ⟨rfl, l3, g3⟩
      have L3 := Lib.hid (And.intro l3 g3)
      clear l3 g3
      go_wp2_with fail
      go_ret
      exact ⟨c, _, rfl, by omega, by omega, Nat.le_add_right _ _, L3.out.1, gb_trans L1.out.2.1 L3.out.2⟩
  · refine (hex_any c _).mono ?_
    rintro e w2 ⟨rfl, rfl⟩
    rw [hx]
    clear hx
    generalize (hexOf c).1 = hv at hf ⊢
    go_wp2_with fail
    refine (lex_step p x b (q + 1) _ L1.out.1).mono ?_
    rintro e w3 ⟨rfl, l3, g3⟩
    have L3 := Lib.hid (And.intro l3 (gb_trans L1.out.2.1 g3))
    clear l3 g3
    go_wp2_with fail
    go_loopw [4, 6] (fun a i wr => ∃ (k : Nat) (v : Int), i = .int .i64 k ∧ a = .int .i64 v ∧ k ≤ 5 ∧ ERel w p x b q k v wr) (fun _ i _ => 5 - (intOf i).toNat)
    case atStart => exact ⟨0, hv, rfl, rfl, by omega, hf.1, by omega, _, Nat.le_add_right _ _, L3.out.1, L3.out.2⟩
    case round =>
      obtain ⟨k, v, rfl, rfl, hk, v0, v1, q', hq', lq, gq⟩ := hrel
      have vb : v ≤ 16777215 := by
        have : (16 : Int) ^ (k + 1) ≤ 16 ^ 6 := by
          rcases (show k = 0 ∨ k = 1 ∨ k = 2 ∨ k = 3 ∨ k = 4 ∨ k = 5 by omega) with rfl | rfl | rfl | rfl | rfl | rfl <;> decide
        omega
      obtain ⟨d10, d33, d35, d36, d37⟩ := lq.cells
      obtain ⟨c2, hc2⟩ : ∃ c, (decAt x.s q').1 = c := ⟨_, rfl⟩
      rw [hc2] at d35
      have hf2 := hex_facts c2
      have HX := Lib.hid (hex_any c2)
      have LQ := Lib.hid (And.intro lq (And.intro gq v1))
      clear lq gq v1 hc2 d10 d33 d36 d37
      by_cases hgo : k < 5 ∧ (hexOf c2).2 = true
      · obtain ⟨hk5, hh⟩ := hgo
        rw [hh] at HX
        generalize (hexOf c2).1 = n2 at hf2 HX
        clear hh
        go_wp2_with fail
        refine (HX.out _).mono ?_
        rintro e w5 ⟨rfl, rfl⟩
        go_wp2_with fail
        refine (lex_step p x b q' _ LQ.out.1).mono ?_
        rintro e w6 ⟨rfl, l6, g6⟩
        have L6 := Lib.hid (And.intro l6 (gb_trans LQ.out.2.1 g6))
        clear l6 g6
        go_wp2_with fail
        go_roundw
        case rel => exact ⟨k + 1, v * 16 + n2, by go_num, rfl, by omega, by omega, by rw [show (16 : Int) ^ (k + 1 + 1) = 16 ^ (k + 1) * 16 from Int.pow_succ _ _]; have := LQ.out.2.2; omega, _, by omega, L6.out.1, L6.out.2⟩
        case measure => simp [intOf]; omega
      · rcases (show k = 5 ∨ (k < 5 ∧ (hexOf c2).2 = false) by
          rcases (show k = 5 ∨ k < 5 by omega) with h5 | h5
          · exact .inl h5
          · exact .inr ⟨h5, by cases hh : (hexOf c2).2 with | false => rfl | true => exact absurd ⟨h5, hh⟩ hgo⟩) with rfl | ⟨hk5, hh⟩
        · clear hgo
          go_wp2_with fail
          cases hw : isWS c2
          · have HW := ws_any c2 wr
            rw [hw] at HW
            refine HW.mono ?_
            rintro e w7 ⟨rfl, rfl⟩
            clear hw HW
            rcases (show v = 0 ∨ (0 < v ∧ v < 55296) ∨ (55296 ≤ v ∧ v ≤ 57343) ∨ (57343 < v ∧ v ≤ 1114111) ∨ 1114111 < v by omega) with rfl | ⟨y1, y2⟩ | ⟨y1, y2⟩ | ⟨y1, y2⟩ | y1
            · go_wp2_with fail
              go_ret
              exact ⟨65533, q', rfl, by omega, by omega, hq', LQ.out.1, LQ.out.2.1⟩
            all_goals have tz : (v == 0) = false := beq_eq_false_iff_ne.2 (by omega)
            · go_wp2_with fail
              go_ret
              exact ⟨v, q', rfl, by omega, by omega, hq', LQ.out.1, LQ.out.2.1⟩
            · go_wp2_with fail
              go_ret
              exact ⟨65533, q', rfl, by omega, by omega, hq', LQ.out.1, LQ.out.2.1⟩
            · go_wp2_with fail
              go_ret
              exact ⟨v, q', rfl, by omega, by omega, hq', LQ.out.1, LQ.out.2.1⟩
            · go_wp2_with fail
              go_ret
              exact ⟨65533, q', rfl, by omega, by omega, hq', LQ.out.1, LQ.out.2.1⟩
          · have HW := ws_any c2 wr
            rw [hw] at HW
            refine HW.mono ?_
            rintro e w7 ⟨rfl, rfl⟩
            clear hw HW
            go_wp2_with fail
            refine (lex_step p x b q' _ LQ.out.1).mono ?_
            rintro e w8 ⟨rfl, l8, g8⟩
            have L8 := Lib.hid (And.intro l8 (gb_trans LQ.out.2.1 g8))
            clear l8 g8
            rcases (show v = 0 ∨ (0 < v ∧ v < 55296) ∨ (55296 ≤ v ∧ v ≤ 57343) ∨ (57343 < v ∧ v ≤ 1114111) ∨ 1114111 < v by omega) with rfl | ⟨y1, y2⟩ | ⟨y1, y2⟩ | ⟨y1, y2⟩ | y1
            · go_wp2_with fail
              go_ret
              exact ⟨65533, _, rfl, by omega, by omega, Nat.le_trans hq' (Nat.le_add_right _ _), L8.out.1, L8.out.2⟩
            all_goals have tz : (v == 0) = false := beq_eq_false_iff_ne.2 (by omega)
            · go_wp2_with fail
              go_ret
              exact ⟨v, _, rfl, by omega, by omega, Nat.le_trans hq' (Nat.le_add_right _ _), L8.out.1, L8.out.2⟩
            · go_wp2_with fail
              go_ret
              exact ⟨65533, _, rfl, by omega, by omega, Nat.le_trans hq' (Nat.le_add_right _ _), L8.out.1, L8.out.2⟩
            · go_wp2_with fail
              go_ret
              exact ⟨v, _, rfl, by omega, by omega, Nat.le_trans hq' (Nat.le_add_right _ _), L8.out.1, L8.out.2⟩
            · go_wp2_with fail
              go_ret
              exact ⟨65533, _, rfl, by omega, by omega, Nat.le_trans hq' (Nat.le_add_right _ _), L8.out.1, L8.out.2⟩
        · rw [hh] at HX
          clear hgo hh
          go_wp2_with fail
          refine (HX.out _).mono ?_
          rintro e w5 ⟨rfl, rfl⟩
          go_wp2_with fail
          cases hw : isWS c2
          · have HW := ws_any c2 wr
            rw [hw] at HW
            refine HW.mono ?_
            rintro e w7 ⟨rfl, rfl⟩
            clear hw HW
            rcases (show v = 0 ∨ (0 < v ∧ v < 55296) ∨ (55296 ≤ v ∧ v ≤ 57343) ∨ (57343 < v ∧ v ≤ 1114111) ∨ 1114111 < v by omega) with rfl | ⟨y1, y2⟩ | ⟨y1, y2⟩ | ⟨y1, y2⟩ | y1
            · go_wp2_with fail
              go_ret
              exact ⟨65533, q', rfl, by omega, by omega, hq', LQ.out.1, LQ.out.2.1⟩
            all_goals have tz : (v == 0) = false := beq_eq_false_iff_ne.2 (by omega)
            · go_wp2_with fail
              go_ret
              exact ⟨v, q', rfl, by omega, by omega, hq', LQ.out.1, LQ.out.2.1⟩
            · go_wp2_with fail
              go_ret
              exact ⟨65533, q', rfl, by omega, by omega, hq', LQ.out.1, LQ.out.2.1⟩
            · go_wp2_with fail
              go_ret
              exact ⟨v, q', rfl, by omega, by omega, hq', LQ.out.1, LQ.out.2.1⟩
            · go_wp2_with fail
              go_ret
              exact ⟨65533, q', rfl, by omega, by omega, hq', LQ.out.1, LQ.out.2.1⟩
          · have HW := ws_any c2 wr
            rw [hw] at HW
            refine HW.mono ?_
            rintro e w7 ⟨rfl, rfl⟩
            clear hw HW
            go_wp2_with fail
            refine (lex_step p x b q' _ LQ.out.1).mono ?_
            rintro e w8 ⟨rfl, l8, g8⟩
            have L8 := Lib.hid (And.intro l8 (gb_trans LQ.out.2.1 g8))
            clear l8 g8
            rcases (show v = 0 ∨ (0 < v ∧ v < 55296) ∨ (55296 ≤ v ∧ v ≤ 57343) ∨ (57343 < v ∧ v ≤ 1114111) ∨ 1114111 < v by omega) with rfl | ⟨y1, y2⟩ | ⟨y1, y2⟩ | ⟨y1, y2⟩ | y1
            · go_wp2_with fail
              go_ret
              exact ⟨65533, _, rfl, by omega, by omega, Nat.le_trans hq' (Nat.le_add_right _ _), L8.out.1, L8.out.2⟩
            all_goals have tz : (v == 0) = false := beq_eq_false_iff_ne.2 (by omega)
            · go_wp2_with fail
              go_ret
              exact ⟨v, _, rfl, by omega, by omega, Nat.le_trans hq' (Nat.le_add_right _ _), L8.out.1, L8.out.2⟩
            · go_wp2_with fail
              go_ret
              exact ⟨65533, _, rfl, by omega, by omega, Nat.le_trans hq' (Nat.le_add_right _ _), L8.out.1, L8.out.2⟩
            · go_wp2_with fail
              go_ret
              exact ⟨v, _, rfl, by omega, by omega, Nat.le_trans hq' (Nat.le_add_right _ _), L8.out.1, L8.out.2⟩
            · go_wp2_with fail
              go_ret
              exact ⟨65533, _, rfl, by omega, by omega, Nat.le_trans hq' (Nat.le_add_right _ _), L8.out.1, L8.out.2⟩
end Go.Proofs.YtlbpplkanogkgaaDoor
