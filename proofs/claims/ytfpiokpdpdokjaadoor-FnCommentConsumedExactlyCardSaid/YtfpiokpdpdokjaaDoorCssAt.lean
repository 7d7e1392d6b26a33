/-
  A css lexer in step with its text: its state is fixed by the position of the code point that it holds. One step in these words; what a code point tells of the bytes. No statement of the seat is proved here.
-/
import Derived.Test.YtfpiokpdpdokjaaDoorCssNew
namespace Go.Proofs.YtfpiokpdpdokjaaDoor
open Go.RowKit
set_option linter.unusedVariables false

/-- the byte at i (0 beyond the end) -/
def byteAt (s : ByteArray) (i : Nat) : Nat := (s.get! i).toNat
theorem byteAt_lt (s : ByteArray) (i : Nat) : byteAt s i < 256 := (s.get! i).toNat_lt
theorem byteAt_get (s : ByteArray) (i : Nat) (h : i < s.size) : (s[i]'h).toNat = byteAt s i := by unfold byteAt; rw [get!_at s i h]
/-- how many of the first k bytes are newlines -/
def cntNL (s : ByteArray) : Nat → Nat
  | 0 => 0
  | k + 1 => cntNL s k + (if byteAt s k = 10 then 1 else 0)
theorem cntNL_le (s : ByteArray) (k : Nat) : cntNL s k ≤ k := by
  induction k with
  | zero => exact Nat.le_refl _
  | succ k ih => rw [cntNL]; split <;> omega
theorem cntNL_none (s : ByteArray) (a n : Nat) (h : ∀ j, a ≤ j → j < a + n → byteAt s j ≠ 10) : cntNL s (a + n) = cntNL s a := by
  induction n with
  | zero => rfl
  | succ n ih =>
    rw [← Nat.add_assoc, cntNL, if_neg (h (a + n) (by omega) (by omega)), Nat.add_zero]
    exact ih (fun j h1 h2 => h j h1 (by omega))
theorem cntNL_mono (s : ByteArray) (a n : Nat) : cntNL s a ≤ cntNL s (a + n) := by
  induction n with
  | zero => exact Nat.le_refl _
  | succ n ih => rw [← Nat.add_assoc, cntNL]; omega
theorem cntNL_mono' (s : ByteArray) {a b : Nat} (h : a ≤ b) : cntNL s a ≤ cntNL s b := by
  obtain ⟨n, rfl⟩ := Nat.exists_eq_add_of_le h
  exact cntNL_mono s a n

/-! what the code point at q tells of the bytes there -/
theorem decAt_end (s : ByteArray) (q : Nat) (h : s.size ≤ q) : decAt s q = (-1, 0) := by unfold decAt; rw [if_neg (by omega)]
theorem decAt_ascii (s : ByteArray) (q : Nat) (h : q < s.size) (hb : byteAt s q < 128) : decAt s q = ((byteAt s q : Int), 1) := by
  have := byteAt_get s q h
  unfold decAt; rw [if_pos h, decode_ascii s q h (by omega)]
  simp only [this]
theorem decAt_high (s : ByteArray) (q : Nat) (h : q < s.size) (hb : 128 ≤ byteAt s q) : 128 ≤ (decAt s q).1 ∧ 1 ≤ (decAt s q).2 ∧ q + (decAt s q).2 ≤ s.size ∧ ∀ j, q ≤ j → j < q + (decAt s q).2 → 128 ≤ byteAt s j := by
  have hg := byteAt_get s q h
  have h1 := decode_high s q h (by omega)
  have h2 := high_bytes s q h (by omega)
  unfold decAt; rw [if_pos h]
  exact ⟨by simp only; omega, h1.2, h2.1, h2.2⟩
theorem decAt_le (s : ByteArray) (q : Nat) (h : q ≤ s.size) : q + (decAt s q).2 ≤ s.size := by
  by_cases hl : q < s.size
  · by_cases hb : byteAt s q < 128
    · rw [decAt_ascii s q hl hb]; show q + 1 ≤ _; omega
    · exact (decAt_high s q hl (by omega)).2.2.1
  · rw [decAt_end s q (by omega)]; exact h
theorem decAt_pos (s : ByteArray) (q : Nat) (h : q < s.size) : 1 ≤ (decAt s q).2 := by
  by_cases hb : byteAt s q < 128
  · rw [decAt_ascii s q h hb]; exact Nat.le_refl _
  · exact (decAt_high s q h (by omega)).2.1
/-- the code point is -1 at the end, an ASCII byte, or at least 128 -/
theorem decAt_cases (s : ByteArray) (q : Nat) : (s.size ≤ q ∧ decAt s q = (-1, 0)) ∨ (q < s.size ∧ byteAt s q < 128 ∧ decAt s q = ((byteAt s q : Int), 1)) ∨ (q < s.size ∧ 128 ≤ byteAt s q ∧ 128 ≤ (decAt s q).1) := by
  by_cases hl : q < s.size
  · by_cases hb : byteAt s q < 128
    · exact .inr (.inl ⟨hl, hb, decAt_ascii s q hl hb⟩)
    · exact .inr (.inr ⟨hl, by omega, (decAt_high s q hl (by omega)).1⟩)
  · exact .inl ⟨by omega, decAt_end s q (by omega)⟩
/-- a code point below 128 is the byte at its place -/
theorem decAt_small (s : ByteArray) (q : Nat) {c : Int} (h : (decAt s q).1 = c) (h0 : 0 ≤ c) (h1 : c < 128) : q < s.size ∧ (byteAt s q : Int) = c ∧ (decAt s q).2 = 1 := by
  rcases decAt_cases s q with ⟨_, e⟩ | ⟨hl, hb, e⟩ | ⟨_, _, e⟩
  · rw [e] at h; simp only at h; omega
  · rw [e] at h ⊢; exact ⟨hl, h, rfl⟩
  · omega
theorem decAt_range (s : ByteArray) (q : Nat) : -1 ≤ (decAt s q).1 ∧ (decAt s q).1 ≤ 2147483647 := by
  unfold decAt
  split
  · have : (Utf8.decode s q).1 ≤ 1114111 := by
      rw [Lib.decode_at]
      have q0 := (s.get! q).toNat_lt
      have q1 := (s.get! (q + 1)).toNat_lt
      have q2 := (s.get! (q + 2)).toNat_lt
      have q3 := (s.get! (q + 3)).toNat_lt
      generalize (s.get! q).toNat = b0 at *
      generalize (s.get! (q + 1)).toNat = b1 at *
      generalize (s.get! (q + 2)).toNat = b2 at *
      generalize (s.get! (q + 3)).toNat = b3 at *
      unfold Lib.decodeN
      repeat' split
      all_goals (simp only; omega)
    simp only; omega
  · simp only; omega
theorem cnt_dec (s : ByteArray) (q : Nat) (h : q ≤ s.size) : cntNL s (q + (decAt s q).2) = cntNL s q + (if (decAt s q).1 = 10 then 1 else 0) := by
  rcases decAt_cases s q with ⟨_, e⟩ | ⟨hl, hb, e⟩ | ⟨hl, hb, e⟩
  · rw [e]; rfl
  · rw [e]; simp only
    rw [cntNL]
    by_cases hx : byteAt s q = 10
    · rw [if_pos hx, if_pos (by omega)]
    · rw [if_neg hx, if_neg (by omega)]
  · rw [if_neg (by omega), Nat.add_zero]
    obtain ⟨_, _, _, hj⟩ := decAt_high s q hl hb
    exact cntNL_none s q _ (fun j h1 h2 => by have := hj j h1 h2; omega)

/-- the state of a lexer that holds the code point at q (b newlines lie before its start) -/
def Lx.at (x : Lx) (b q : Nat) : Lx := { x with cp := (decAt x.s q).1, cur := q + (decAt x.s q).2, ln := q - x.st, nl := cntNL x.s (q + (decAt x.s q).2) - b }
theorem Lx.at_step (x : Lx) (b q : Nat) (h : q ≤ x.s.size) (hb : b ≤ cntNL x.s q) : (x.at b q).step = x.at b (q + (decAt x.s q).2) := by
  have hc := cnt_dec x.s (q + (decAt x.s q).2) (decAt_le x.s q h)
  have hm := cntNL_mono x.s q (decAt x.s q).2
  unfold Lx.step Lx.at
  simp only [hc]
  congr 1
  omega
/-- a lexer that was laid at i by hand, and steps -/
theorem Lx.laid_step (x : Lx) (b q i : Nat) (h : i ≤ x.s.size) (hq : q + (decAt x.s q).2 ≤ i) (hb : b ≤ cntNL x.s q) (hn : cntNL x.s i = cntNL x.s (q + (decAt x.s q).2)) : ({x.at b q with cur := i} : Lx).step = x.at b i := by
  have hc := cnt_dec x.s i h
  have hm := cntNL_mono x.s q (decAt x.s q).2
  unfold Lx.step Lx.at
  simp only [hc, hn]
  congr 1
  omega

/-- a lexer in step, and what goes with it -/
structure Lex (w : World) (p : Nat) (x : Lx) (b q : Nat) : Prop where
  css : Css w p (x.at b q)
  hq : q ≤ x.s.size
  hst : x.st ≤ q
  hsz : x.s.size ≤ 2097152
  hcb : b ≤ cntNL x.s q
  tabs : Lib.Utf8Tabs 0 1 w
  p1 : 1 < p
theorem Lex.lt {w : World} {p : Nat} {x : Lx} {b q : Nat} (h : Lex w p x b q) : p < w.heap.size := h.css.lt
theorem tabs_gbn {w w' : World} {row : Option Nat} (h : Lib.Utf8Tabs 0 1 w) (hg : w.grownBy w' row) (h0 : some 0 ≠ row) (h1 : some 1 ≠ row) : Lib.Utf8Tabs 0 1 w' := by
  have z0 : 0 < w.heap.size := World.block_lt_of_cell? w ⟨0, 0, none⟩ (h.1 0 (by decide))
  have z1 : 1 < w.heap.size := World.block_lt_of_cell? w ⟨1, 0, none⟩ (h.2 0 (by decide)).1
  exact ⟨fun c hc => (World.cell?_of_block (w := w) (hg.block 0 z0 h0)).trans (h.1 c hc), fun i hi => ⟨(World.cell?_of_block (w := w) (hg.block 1 z1 h1)).trans (h.2 i hi).1, (World.cell?_of_block (w := w) (hg.block 1 z1 h1)).trans (h.2 i hi).2⟩⟩
theorem Lex.gb {w w' : World} {p : Nat} {x : Lx} {b q : Nat} {row : Option Nat} (h : Lex w p x b q) (hg : w.grownBy w' row) (hne : some p ≠ row) (h0 : some 0 ≠ row) (h1 : some 1 ≠ row) : Lex w' p x b q :=
  ⟨h.css.gb hg hne, h.hq, h.hst, h.hsz, h.hcb, tabs_gbn h.tabs hg h0 h1, h.p1⟩
theorem Lex.kept {w w' : World} {p : Nat} {x : Lx} {b q : Nat} (h : Lex w p x b q) (hb : Below w.heap.size w w') : Lex w' p x b q := h.gb (gb_of_below none hb) (by simp) (by simp) (by simp)
theorem Lex.alloc {w : World} {p : Nat} {x : Lx} {b q : Nat} (h : Lex w p x b q) (o : Obj) : Lex (w.alloc o) p x b q := h.kept ((Below.refl _ _).alloc (Nat.le_refl _) o)
theorem Lex.drew {w : World} {p : Nat} {x : Lx} {b q : Nat} (h : Lex w p x b q) : Lex w.drew p x b q := ⟨h.css, h.hq, h.hst, h.hsz, h.hcb, h.tabs, h.p1⟩
theorem Lex.drewN {w : World} {p : Nat} {x : Lx} {b q : Nat} (h : Lex w p x b q) (m : Nat) : Lex (w.drewN m) p x b q := ⟨h.css, h.hq, h.hst, h.hsz, h.hcb, h.tabs, h.p1⟩
/-- what a method that moves the lexer to q' leaves -/
def Went (w : World) (p : Nat) (x : Lx) (b q' : Nat) (r : Ending) (w' : World) : Prop := r = .returned (.tuple #[]) ∧ Lex w' p x b q' ∧ w.grownBy w' (some p)
theorem lex_of {w w' : World} {p : Nat} {x x' : Lx} {b q q' : Nat} (h : Lex w p x b q) (hc : Css w' p (x'.at b q')) (hs : x'.s = x.s) (hst : x'.st = x.st) (hg : w.grownBy w' (some p)) (hq : q ≤ q') (hq' : q' ≤ x.s.size) : Lex w' p x' b q' := by
  refine ⟨hc, by rw [hs]; exact hq', by rw [hst]; exact Nat.le_trans h.hst hq, by rw [hs]; exact h.hsz, by rw [hs]; exact Nat.le_trans h.hcb (cntNL_mono' _ hq), ?_, h.p1⟩
  have := h.p1
  exact tabs_gbn h.tabs hg (by simp; omega) (by simp; omega)
theorem lex_step (p : Nat) (x : Lx) (b q : Nat) (w : World) (h : Lex w p x b q) : Calls Tryd.prog 21 #[.pointer (some ⟨p, 0, none⟩)] w (Went w p x b (q + (decAt x.s q).2)) := by
  have hle := decAt_le x.s q h.hq
  have hn : (x.at b q).nl ≤ 1099511627776 := by
    have := cntNL_le x.s (q + (decAt x.s q).2)
    have := h.hsz
    show cntNL x.s (q + (decAt x.s q).2) - b ≤ _
    omega
  refine (css_step p (x.at b q) w h.css hle h.hsz (Nat.le_trans h.hst (Nat.le_add_right _ _)) hn h.tabs).mono ?_
  rintro r w' ⟨h1, h2, h3⟩
  rw [Lx.at_step x b q h.hq h.hcb] at h2
  exact ⟨h1, lex_of h h2 rfl rfl h3 (Nat.le_add_right _ _) hle, h3⟩
/-- the cells that a walk reads -/
theorem Lex.cells {w : World} {p : Nat} {x : Lx} {b q : Nat} (h : Lex w p x b q) : w.cell? ⟨p, 10, none⟩ = some (.string x.s) ∧ w.cell? ⟨p, 33, none⟩ = some (.int .i64 (q + (decAt x.s q).2 : Nat)) ∧ w.cell? ⟨p, 35, none⟩ = some (.int .i32 (decAt x.s q).1) ∧ w.cell? ⟨p, 36, none⟩ = some (.int .i32 x.st) ∧ w.cell? ⟨p, 37, none⟩ = some (.int .i32 (q - x.st : Nat)) := by
  obtain ⟨c0, c10, c17, c18, c19, c20, c21, c32, c33, c35, c36, c37, c38, c39, c40⟩ := h.css.cells
  exact ⟨c10, c33, c35, c36, c37⟩
end Go.Proofs.YtfpiokpdpdokjaaDoor
