/-
  The css lexer's wouldStartNumber (as next calls it) and consumeIdentLike where no parenthesis follows. No statement of the seat is proved here.
-/
import Derived.Test.YtlbpplkanogkgaaDoorCssNxt
namespace Go.Proofs.YtlbpplkanogkgaaDoor
open Go.RowKit
set_option linter.unusedVariables false
def WSN (s : ByteArray) (q : Nat) (w : World) (r : Ending) (w' : World) : Prop := ∃ v : Bool, r = .returned (.bool v) ∧ (v = true → wsn s q) ∧ w = w'
set_option maxRecDepth 100000 in
set_option maxHeartbeats 2000000 in
theorem wsn_dot (p : Nat) (x : Lx) (b q : Nat) (w : World) (h : Lex w p x b q) (hc : (decAt x.s q).1 = 46) : Calls Tryd.prog 94 #[.pointer (some ⟨p, 0, none⟩)] w (WSN x.s q w) := by
  obtain ⟨hl, hb, hW⟩ := decAt_small x.s q hc (by omega) (by omega)
  obtain ⟨c10, c33, c35, c36, c37⟩ := h.cells
  rw [hc] at c35
  rw [hW] at c33
  have hsz := h.hsz
  have HB0 := Lib.hid (show byteAt x.s q = 46 by omega)
  clear h hc hb hW c36 c37
  obtain ⟨n, hn⟩ : ∃ n, q + 1 = n := ⟨_, rfl⟩
  rw [hn] at c33
  have HN := Lib.hid hn
  clear hn
  by_cases l1 : n < x.s.size
  · have eb1 := byteAt_get x.s n l1
    have hbl1 := byteAt_lt x.s n
    obtain ⟨b1, hb1⟩ : ∃ b, byteAt x.s n = b := ⟨_, rfl⟩
    rw [hb1] at eb1 hbl1
    have HB1 := Lib.hid hb1
    clear hb1
    rcases (show (48 ≤ b1 ∧ b1 ≤ 57) ∨ b1 < 48 ∨ (48 ≤ b1 ∧ 57 < b1) by omega) with ⟨d1, d2⟩ | d1 | ⟨d1, d2⟩
    · go_enter Tryd.func94, Tryd.ntmps94
      go_wp2
      go_ret
      exact ⟨true, by first | rfl | exact ret_bool (by simp; omega), fun _ => ⟨hl, .inr (.inl ⟨HB0.out, by have := HN.out; omega, by rw [HN.out, HB1.out]; exact ⟨d1, d2⟩⟩)⟩, rfl⟩
    all_goals
      go_enter Tryd.func94, Tryd.ntmps94
      go_wp2
      go_ret
      exact ⟨false, by first | rfl | exact ret_bool (by simp; omega), fun c => (by cases c), rfl⟩
  · go_enter Tryd.func94, Tryd.ntmps94
    go_wp2
    go_ret
    exact ⟨false, by first | rfl | exact ret_bool (by simp; omega), fun c => (by cases c), rfl⟩
set_option maxRecDepth 100000 in
set_option maxHeartbeats 4000000 in
theorem wsn_sign (p : Nat) (x : Lx) (b q : Nat) (w : World) (h : Lex w p x b q) (hc : (decAt x.s q).1 = 43 ∨ (decAt x.s q).1 = 45) : Calls Tryd.prog 94 #[.pointer (some ⟨p, 0, none⟩)] w (WSN x.s q w) := by
  obtain ⟨c, hcc⟩ : ∃ c, (decAt x.s q).1 = c := ⟨_, rfl⟩
  rw [hcc] at hc
  obtain ⟨hl, hb, hW⟩ := decAt_small x.s q hcc (by omega) (by omega)
  obtain ⟨c10, c33, c35, c36, c37⟩ := h.cells
  rw [hcc] at c35
  rw [hW] at c33
  have hsz := h.hsz
  have HB0 := Lib.hid (show byteAt x.s q = 43 ∨ byteAt x.s q = 45 by omega)
  clear h hcc hb hW c36 c37
  obtain ⟨n, hn⟩ : ∃ n, q + 1 = n := ⟨_, rfl⟩
  rw [hn] at c33
  have HN := Lib.hid hn
  clear hn
  by_cases l1 : n < x.s.size
  · have eb1 := byteAt_get x.s n l1
    have hbl1 := byteAt_lt x.s n
    obtain ⟨b1, hb1⟩ : ∃ b, byteAt x.s n = b := ⟨_, rfl⟩
    rw [hb1] at eb1 hbl1
    have HB1 := Lib.hid hb1
    clear hb1
    rcases (show (48 ≤ b1 ∧ b1 ≤ 57) ∨ b1 = 46 ∨ (b1 < 48 ∧ b1 ≠ 46) ∨ (48 ≤ b1 ∧ 57 < b1) by omega) with ⟨d1, d2⟩ | d1 | ⟨d1, d2⟩ | ⟨d1, d2⟩
    · rcases hc with rfl | rfl
      all_goals
        go_enter Tryd.func94, Tryd.ntmps94
        go_wp2
        go_ret
        exact ⟨true, by first | rfl | exact ret_bool (by simp; omega), fun _ => ⟨hl, .inr (.inr ⟨HB0.out, by have := HN.out; omega, .inl (by rw [HN.out, HB1.out]; exact ⟨d1, d2⟩)⟩)⟩, rfl⟩
    · subst d1
      by_cases l2 : n + 1 < x.s.size
      · have eb2 := byteAt_get x.s (n + 1) l2
        have hbl2 := byteAt_lt x.s (n + 1)
        obtain ⟨b2, hb2⟩ : ∃ b, byteAt x.s (n + 1) = b := ⟨_, rfl⟩
        rw [hb2] at eb2 hbl2
        have HB2 := Lib.hid hb2
        clear hb2
        rcases (show (48 ≤ b2 ∧ b2 ≤ 57) ∨ b2 < 48 ∨ (48 ≤ b2 ∧ 57 < b2) by omega) with ⟨d1, d2⟩ | d1 | ⟨d1, d2⟩
        · rcases hc with rfl | rfl
          all_goals
            go_enter Tryd.func94, Tryd.ntmps94
            go_wp2
            go_ret
            exact ⟨true, by first | rfl | exact ret_bool (by simp; omega), fun _ => ⟨hl, .inr (.inr ⟨HB0.out, by have := HN.out; omega, .inr ⟨by rw [HN.out]; exact HB1.out, by have := HN.out; omega, by rw [show q + 2 = n + 1 by have := HN.out; omega, HB2.out]; exact ⟨d1, d2⟩⟩⟩)⟩, rfl⟩
        all_goals
          rcases hc with rfl | rfl
          all_goals
            go_enter Tryd.func94, Tryd.ntmps94
            go_wp2
            go_ret
            exact ⟨false, by first | rfl | exact ret_bool (by simp; omega), fun c => (by cases c), rfl⟩
      · rcases hc with rfl | rfl
        all_goals
          go_enter Tryd.func94, Tryd.ntmps94
          go_wp2
          go_ret
          exact ⟨false, by first | rfl | exact ret_bool (by simp; omega), fun c => (by cases c), rfl⟩
    all_goals
      have t1 : ((b1 : Int) == 46) = false := beq_eq_false_iff_ne.2 (by omega)
      rcases hc with rfl | rfl
      all_goals
        go_enter Tryd.func94, Tryd.ntmps94
        go_wp2
        go_ret
        exact ⟨false, by first | rfl | exact ret_bool (by simp; omega), fun c => (by cases c), rfl⟩
  · rcases hc with rfl | rfl
    all_goals
      go_enter Tryd.func94, Tryd.ntmps94
      go_wp2
      go_ret
      exact ⟨false, by first | rfl | exact ret_bool (by simp; omega), fun c => (by cases c), rfl⟩
/-- none of the bytes that a lexer without comments, strings, escapes and calls never meets -/
def Safe (s : ByteArray) : Prop := ∀ j, j < s.size → byteAt s j ≠ 47 ∧ byteAt s j ≠ 92 ∧ byteAt s j ≠ 34 ∧ byteAt s j ≠ 39 ∧ byteAt s j ≠ 40
theorem safe_cp {s : ByteArray} (h : Safe s) (q : Nat) : (decAt s q).1 ≠ 47 ∧ (decAt s q).1 ≠ 92 ∧ (decAt s q).1 ≠ 34 ∧ (decAt s q).1 ≠ 39 ∧ (decAt s q).1 ≠ 40 := by
  refine ⟨?_, ?_, ?_, ?_, ?_⟩ <;> (intro e; obtain ⟨h1, h2, _⟩ := decAt_small s q e (by omega) (by omega); have := h q h1; omega)
theorem safe_esc {s : ByteArray} (h : Safe s) (q : Nat) : vEsc s q = false := by
  unfold vEsc; rw [decide_eq_false (safe_cp h q).2.1]; rfl
def Ided (w : World) (p : Nat) (x : Lx) (b q : Nat) (r : Ending) (w' : World) : Prop := ∃ q' : Nat, r = .returned (.int .u8 29) ∧ q ≤ q' ∧ q' ≤ x.s.size ∧ (nameCont (decAt x.s q).1 = true → q < q') ∧ Lex w' p x b q' ∧ w.grownBy w' (some p)
set_option maxRecDepth 100000 in
set_option maxHeartbeats 2000000 in
theorem id_any (p : Nat) (x : Lx) (b q : Nat) (w : World) (h : Lex w p x b q) (hs : Safe x.s) : Calls Tryd.prog 95 #[.pointer (some ⟨p, 0, none⟩)] w (Ided w p x b q) := by
  have H := Lib.hid (And.intro h hs)
  clear h hs
  go_enter Tryd.func95, Tryd.ntmps95
  go_wp2_with fail
  refine (name_any p x b q w H.out.1).mono ?_
  rintro e w1 ⟨v, q', rfl, hn, l1, g1⟩
  obtain ⟨c10, c33, c35, c36, c37⟩ := l1.cells
  have hne := (safe_cp H.out.2 q').2.2.2.2
  have H1 := Lib.hid (And.intro hn (And.intro l1 g1))
  clear hn l1 g1 c10 c33 c36 c37
  generalize (decAt x.s q').1 = c at c35 hne
  have t1 : (c == 40) = false := beq_eq_false_iff_ne.2 hne
  go_wp2_with fail
  go_ret
  exact ⟨q', rfl, H1.out.1.1, H1.out.1.2.1, fun h => H1.out.1.2.2.2.2.2 (.inl h), H1.out.2.1, H1.out.2.2⟩
theorem eof_at {s : ByteArray} {q : Nat} (h : (decAt s q).1 = -1) (hq : q ≤ s.size) : q = s.size := by
  rcases decAt_cases s q with ⟨h1, _⟩ | ⟨_, _, e⟩ | ⟨_, _, e⟩
  · omega
  · rw [e] at h; simp only at h; omega
  · omega
theorem tokP_num {s : ByteArray} {q q' kd un : Nat} (h : NumTo s q q q' kd un 0) : TokP s q q' kd un := by
  have h' := h
  obtain ⟨m, ⟨h1, h2, _⟩, hc⟩ := h
  rcases hc with ⟨rfl, _, a, b, _⟩ | ⟨rfl, _, a, b, rfl, _⟩ | ⟨rfl, _, a, rfl, _⟩
  · exact .inr ⟨by omega, b, rfl, .inr ⟨rfl, h'⟩⟩
  · exact .inr ⟨by omega, by omega, rfl, .inr ⟨rfl, h'⟩⟩
  · exact .inr ⟨by omega, by omega, rfl, .inr ⟨rfl, h'⟩⟩
theorem lex_kd {w : World} {p : Nat} {y : Lx} {b q : Nat} (h : Lex w p y b q) (kd : Nat) : Lex (w.setCell ⟨p, 39, none⟩ (.int .u8 kd)) p {y with kd := kd} b q :=
  lex_of (x' := {y with kd := kd}) h (h.css.set_kd kd) rfl rfl (gb_set (gb_refl w (some p)) 39 none (.int .u8 kd)) (Nat.le_refl _) h.hq
theorem lex_fl {w : World} {p : Nat} {y : Lx} {b q : Nat} (h : Lex w p y b q) (fl : Nat) : Lex (w.setCell ⟨p, 40, none⟩ (.int .u8 fl)) p {y with fl := fl} b q :=
  lex_of (x' := {y with fl := fl}) h (h.css.set_fl fl) rfl rfl (gb_set (gb_refl w (some p)) 40 none (.int .u8 fl)) (Nat.le_refl _) h.hq
theorem tok_end {w w2 : World} {p : Nat} {x y : Lx} {b q q' : Nat} (h : Lex w2 p y b q') (hg : w.grownBy w2 (some p)) (hP : TokP x.s q q' y.kd y.un) (hy : y = {x with st := q, un := y.un, kd := y.kd, fl := y.fl} := by rfl) :
    Tok w p x b q (.returned (.tuple #[])) w2 := by
  refine ⟨q', y.kd, y.un, y.fl, rfl, hP, ?_, hg⟩
  rw [← hy]; exact h
end Go.Proofs.YtlbpplkanogkgaaDoor
