/-
  Plain facts for the well-formedness scan: what a length that zzValidRuneLen gives says of the bytes and of the decoder. No statement of the seat is proved here.
-/
import Derived.Test.YtpgfepilblhpdaaDoorCssWsi
namespace Go.Proofs.YtpgfepilblhpdaaDoor
open Go.RowKit
set_option linter.unusedVariables false
/-- the classes of lead bytes: how many bytes follow, the second one's bounds -/
def VC (b nd lo hi : Nat) : Prop := (nd = 1 ∧ 194 ≤ b ∧ b ≤ 223 ∧ lo = 128 ∧ hi = 191) ∨ (nd = 2 ∧ b = 224 ∧ lo = 160 ∧ hi = 191) ∨ (nd = 2 ∧ 225 ≤ b ∧ b ≤ 236 ∧ lo = 128 ∧ hi = 191) ∨ (nd = 2 ∧ b = 237 ∧ lo = 128 ∧ hi = 159) ∨ (nd = 2 ∧ 238 ≤ b ∧ b ≤ 239 ∧ lo = 128 ∧ hi = 191)
  ∨ (nd = 3 ∧ b = 240 ∧ lo = 144 ∧ hi = 191) ∨ (nd = 3 ∧ 241 ≤ b ∧ b ≤ 243 ∧ lo = 128 ∧ hi = 191) ∨ (nd = 3 ∧ b = 244 ∧ lo = 128 ∧ hi = 143)
theorem vc_dec {n b0 b1 b2 b3 nd lo hi : Nat} (h : VC b0 nd lo hi) (hn : nd < n) (h1 : lo ≤ b1) (h1' : b1 ≤ hi) (h2 : 2 ≤ nd → 128 ≤ b2 ∧ b2 ≤ 191) (h3 : 3 ≤ nd → 128 ≤ b3 ∧ b3 ≤ 191) : (Lib.decodeN n b0 b1 b2 b3).2 = nd + 1 := by
  unfold Lib.decodeN
  rcases h with ⟨rfl, h⟩ | ⟨rfl, h⟩ | ⟨rfl, h⟩ | ⟨rfl, h⟩ | ⟨rfl, h⟩ | ⟨rfl, h⟩ | ⟨rfl, h⟩ | ⟨rfl, h⟩
  · rw [if_neg (by omega), if_pos (by omega), if_pos (by omega)]
  · have := h2 (by omega)
    rw [if_neg (by omega), if_neg (by omega), if_pos (by omega), if_pos (by omega)]
  · have := h2 (by omega)
    rw [if_neg (by omega), if_neg (by omega), if_pos (by omega), if_pos (by omega)]
  · have := h2 (by omega)
    rw [if_neg (by omega), if_neg (by omega), if_pos (by omega), if_pos (by omega)]
  · have := h2 (by omega)
    rw [if_neg (by omega), if_neg (by omega), if_pos (by omega), if_pos (by omega)]
  · have := h2 (by omega)
    have := h3 (by omega)
    rw [if_neg (by omega), if_neg (by omega), if_neg (by omega), if_pos (by omega), if_pos (by omega)]
  · have := h2 (by omega)
    have := h3 (by omega)
    rw [if_neg (by omega), if_neg (by omega), if_neg (by omega), if_pos (by omega), if_pos (by omega)]
  · have := h2 (by omega)
    have := h3 (by omega)
    rw [if_neg (by omega), if_neg (by omega), if_neg (by omega), if_pos (by omega), if_pos (by omega)]
/-- what a length w at i says (0: nothing) -/
def VL (s : ByteArray) (i w : Nat) : Prop := w = 0 ∨ (w = 1 ∧ byteAt s i < 128) ∨ (2 ≤ w ∧ i + w ≤ s.size ∧ (decAt s i).2 = w ∧ ∀ j, i < j → j < i + w → 128 ≤ byteAt s j ∧ byteAt s j ≤ 191)
theorem vl_of {s : ByteArray} {i nd lo hi : Nat} (hi0 : i < s.size) (h : VC (byteAt s i) nd lo hi) (hn : i + nd < s.size) (h1 : lo ≤ byteAt s (i + 1)) (h1' : byteAt s (i + 1) ≤ hi) (hk : ∀ j, 2 ≤ j → j ≤ nd → 128 ≤ byteAt s (i + j) ∧ byteAt s (i + j) ≤ 191) : VL s i (nd + 1) := by
  have hnd : 1 ≤ nd ∧ nd ≤ 3 ∧ 128 ≤ lo ∧ hi ≤ 191 := by rcases h with h | h | h | h | h | h | h | h <;> omega
  refine .inr (.inr ⟨by omega, by omega, ?_, fun j hj1 hj2 => ?_⟩)
  · unfold decAt
    rw [if_pos hi0, Lib.decode_at]
    exact vc_dec h (by omega) h1 h1' (fun c => hk 2 (by omega) c) (fun c => hk 3 (by omega) c)
  · rcases (show j = i + 1 ∨ i + 2 ≤ j by omega) with rfl | hc
    · exact ⟨by omega, by omega⟩
    · obtain ⟨d, rfl⟩ := Nat.exists_eq_add_of_le (show i ≤ j by omega)
      exact hk d (by omega) (by omega)
/-- the scan of well-formed text has come to i: a rune start pos ahead of it was looked at -/
def Vis (s : ByteArray) (pos i : Nat) : Prop := pos < i → ∃ w, 1 ≤ w ∧ VL s pos w
theorem Vis.step {s : ByteArray} {pos i w : Nat} (h : Vis s pos i) (hb : pos < s.size → byteAt s pos < 128 ∨ 191 < byteAt s pos) (hl : i < s.size) (hw : 1 ≤ w) (hv : VL s i w) : Vis s pos (i + w) := by
  intro hp
  rcases Nat.lt_trichotomy pos i with c | c | c
  · exact h c
  · subst c; exact ⟨w, hw, hv⟩
  · exfalso
    rcases hv with rfl | ⟨rfl, _⟩ | ⟨_, h2, _, h4⟩
    · omega
    · omega
    · have := h4 pos c hp
      have := hb (by omega)
      omega
/-- the exported twin, on the text from pos on -/
def woe (s : ByteArray) (n : Nat) : Bool := if (dg s n).1 = 65533 ∧ (dg s n).2 ≤ 1 then false else if nameStart (dg s n).1 = true then true else if (dg s n).1 = 45 then (if (dg s (n + (dg s n).2)).1 = 65533 ∧ (dg s (n + (dg s n).2)).2 ≤ 1 then false else nameStart (dg s (n + (dg s n).2)).1 || decide (((dg s (n + (dg s n).2)).1 : Int) = 45)) else false
theorem dg_dec {s : ByteArray} {n : Nat} (h : n < s.size) : decAt s n = (((dg s n).1 : Int), (dg s n).2) := by
  unfold decAt dg; rw [if_pos h, if_pos h]
theorem dg_out {s : ByteArray} {n : Nat} (h : s.size ≤ n) : dg s n = (65533, 0) := by unfold dg; rw [if_neg (by omega)]
theorem dg_no {s : ByteArray} (hs : ∀ j, j < s.size → byteAt s j ≠ 92) (n : Nat) : (dg s n).1 ≠ 92 := by
  by_cases h : n < s.size
  · intro e
    have k := dg_dec h
    obtain ⟨h1, h2, _⟩ := decAt_small s n (c := 92) (by rw [k]; simp only; omega) (by omega) (by omega)
    have := hs n h1
    omega
  · rw [dg_out (by omega)]; decide
theorem wsi_woe {s : ByteArray} {pos : Nat} (hs : ∀ j, j < s.size → byteAt s j ≠ 92) (hp : pos ≤ s.size) (hv : pos < s.size → ∃ w, 1 ≤ w ∧ VL s pos w) : wsi s pos = woe s pos := by
  have hesc : vEsc s pos = false := by
    unfold vEsc
    by_cases h : pos < s.size
    · have := dg_no hs pos
      rw [dg_dec h, decide_eq_false (by simp only; omega)]; rfl
    · rw [decAt_end s pos (by omega)]; rfl
  unfold wsi woe
  rw [hesc]
  by_cases h : pos < s.size
  · obtain ⟨w, hw, hvl⟩ := hv h
    have k := dg_dec h
    have hne : ¬ ((dg s pos).1 = 65533 ∧ (dg s pos).2 ≤ 1) := by
      rintro ⟨e1, e2⟩
      rcases hvl with h0 | ⟨_, hb⟩ | ⟨hw2, _, hd, _⟩
      · omega
      · rw [decAt_ascii s pos h hb] at k
        have := congrArg Prod.fst k
        simp only at this
        omega
      · rw [k] at hd; simp only at hd; omega
    rw [k, if_neg hne]
    simp only
    by_cases hn : nameStart ((dg s pos).1 : Int) = true
    · rw [hn, if_pos rfl]; rfl
    · rw [if_neg hn, Bool.eq_false_iff.2 hn, Bool.false_or]
      by_cases hm : (dg s pos).1 = 45
      · rw [if_pos (by omega), if_pos hm]
        unfold wsiM
        have h92 := dg_no hs (pos + (dg s pos).2)
        by_cases he : (dg s (pos + (dg s pos).2)).1 = 65533 ∧ (dg s (pos + (dg s pos).2)).2 ≤ 1
        · rw [if_pos he, if_pos he]
        · rw [if_neg he, if_neg he, if_neg h92]
          by_cases h1 : nameStart ((dg s (pos + (dg s pos).2)).1 : Int) = true
          · rw [if_pos (.inl h1), h1]; rfl
          · by_cases h2 : (dg s (pos + (dg s pos).2)).1 = 45
            · rw [if_pos (.inr (by omega)), decide_eq_true (by omega), Bool.or_true]
            · rw [if_neg (by rintro (c | c); exact h1 c; omega), Bool.eq_false_iff.2 h1, decide_eq_false (by omega)]; rfl
      · rw [if_neg (by omega), if_neg hm]
  · rw [decAt_end s pos (by omega), dg_out (by omega)]
    rfl
end Go.Proofs.YtpgfepilblhpdaaDoor
