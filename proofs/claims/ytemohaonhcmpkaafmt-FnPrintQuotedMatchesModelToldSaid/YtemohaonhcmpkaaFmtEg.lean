/-
  strings.EqualFold of five bytes against "style": does the text read so in any case? No statement of the seat is proved here.
-/
import Derived.Test.YtemohaonhcmpkaaFmtEf
namespace Go.Proofs.YtemohaonhcmpkaaFmt
open Go.RowKit Go.Lib
set_option linter.unusedVariables false
set_option linter.unusedSimpArgs false

theorem foldEq_low (x y : UInt8) (h1 : 97 ≤ y.toNat) (h2 : y.toNat ≤ 122) : Lib.foldEq x y = (low x.toNat == y.toNat) := by
  unfold Lib.foldEq low
  rw [Bool.eq_iff_iff]
  split <;> simp <;> omega
theorem list5 (s : ByteArray) (hs : s.size = 5) : ∃ a b c d e : UInt8, s.data.toList = [a, b, c, d, e] ∧ byteAt s 0 = a.toNat ∧ byteAt s 1 = b.toNat ∧ byteAt s 2 = c.toNat ∧ byteAt s 3 = d.toNat ∧ byteAt s 4 = e.toNat := by
  have hl : s.data.toList.length = 5 := by simpa using hs
  have g : ∀ k (hk : k < s.size), s.data.toList[k]? = some (s[k]'hk) := fun k hk => Lib.data_getElem? s k hk
  have gb : ∀ k (hk : k < s.size), byteAt s k = (s[k]'hk).toNat := fun k hk => (byteAt_get s k hk).symm
  have h0 := g 0 (by omega)
  have h1 := g 1 (by omega)
  have h2 := g 2 (by omega)
  have h3 := g 3 (by omega)
  have h4 := g 4 (by omega)
  have b0 := gb 0 (by omega)
  have b1 := gb 1 (by omega)
  have b2 := gb 2 (by omega)
  have b3 := gb 3 (by omega)
  have b4 := gb 4 (by omega)
  match hm : s.data.toList, hl with
  | [a, b, c, d, e], _ =>
    rw [hm] at h0 h1 h2 h3 h4
    simp only [List.getElem?_cons_zero, List.getElem?_cons_succ, Option.some.injEq] at h0 h1 h2 h3 h4
    exact ⟨a, b, c, d, e, rfl, by rw [b0, h0], by rw [b1, h1], by rw [b2, h2], by rw [b3, h3], by rw [b4, h4]⟩
theorem lowsty5 (s : ByteArray) : lowsty s 0 5 = ((low (byteAt s 0) == 115) && (low (byteAt s 1) == 116) && (low (byteAt s 2) == 121) && (low (byteAt s 3) == 108) && (low (byteAt s 4) == 101)) := by
  unfold lowsty
  simp [List.range, List.range.loop, sty, Bool.and_assoc]
theorem fold_lowsty (s t : ByteArray) (hs : s.size = 5) (ht : Tl t 0) : Lib.equalFold s.data.toList t.data.toList = lowsty s 0 5 := by
  have hts : t.size = 5 := by have := ht.1; omega
  obtain ⟨a, b, c, d, e, h1, h2, h3, h4, h5, h6⟩ := list5 s hs
  obtain ⟨a', b', c', d', e', k1, k2, k3, k4, k5, k6⟩ := list5 t hts
  have y0 := ht.2 0 (by omega)
  have y1 := ht.2 1 (by omega)
  have y2 := ht.2 2 (by omega)
  have y3 := ht.2 3 (by omega)
  have y4 := ht.2 4 (by omega)
  rw [k2] at y0
  rw [k3] at y1
  rw [k4] at y2
  rw [k5] at y3
  rw [k6] at y4
  simp [sty] at y0 y1 y2 y3 y4
  rw [lowsty5, h1, k1, h2, h3, h4, h5, h6]
  simp only [Lib.equalFold, foldEq_low a a' (by omega) (by omega), foldEq_low b b' (by omega) (by omega), foldEq_low c c' (by omega) (by omega), foldEq_low d d' (by omega) (by omega), foldEq_low e e' (by omega) (by omega), y0, y1, y2, y3, y4]
  simp [Bool.and_assoc]
theorem high_first (s : ByteArray) : (∀ k, k < 5 → byteAt s k < 128) ∨ ∃ i0, i0 < 5 ∧ 128 ≤ byteAt s i0 ∧ ∀ k, k < i0 → byteAt s k < 128 := by
  by_cases h0 : byteAt s 0 < 128
  · by_cases h1 : byteAt s 1 < 128
    · by_cases h2 : byteAt s 2 < 128
      · by_cases h3 : byteAt s 3 < 128
        · by_cases h4 : byteAt s 4 < 128
          · refine .inl (fun k hk => ?_)
            rcases (show k = 0 ∨ k = 1 ∨ k = 2 ∨ k = 3 ∨ k = 4 by omega) with rfl | rfl | rfl | rfl | rfl <;> assumption
          · refine .inr ⟨4, by omega, by omega, fun k hk => ?_⟩
            rcases (show k = 0 ∨ k = 1 ∨ k = 2 ∨ k = 3 by omega) with rfl | rfl | rfl | rfl <;> assumption
        · refine .inr ⟨3, by omega, by omega, fun k hk => ?_⟩
          rcases (show k = 0 ∨ k = 1 ∨ k = 2 by omega) with rfl | rfl | rfl <;> assumption
      · refine .inr ⟨2, by omega, by omega, fun k hk => ?_⟩
        rcases (show k = 0 ∨ k = 1 by omega) with rfl | rfl <;> assumption
    · refine .inr ⟨1, by omega, by omega, fun k hk => ?_⟩
      obtain rfl : k = 0 := by omega
      assumption
  · exact .inr ⟨0, by omega, by omega, fun k hk => by omega⟩
theorem low_high {s : ByteArray} {i0 : Nat} (h : i0 < 5) (hb : 128 ≤ byteAt s i0) : lowsty s 0 5 = false := by
  cases hl : lowsty s 0 5 with
  | false => rfl
  | true =>
    unfold lowsty at hl
    have := List.all_eq_true.1 hl i0 (List.mem_range.2 h)
    rw [Nat.zero_add] at this
    simp at this
    unfold low at this
    rw [if_neg (by omega)] at this
    rcases sty_cases i0 with h | h | h | h | h <;> omega
def EgE (s : ByteArray) (w : World) (e : Ending) (w' : World) : Prop := e = .returned (.bool (lowsty s 0 5)) ∧ w.grownBy w' none
theorem ef_any (s t : ByteArray) (hs : s.size = 5) (ht : Tl t 0) (w : World) {R o cap : Nat} (hF : Fold w R o cap) (hR : R < w.heap.size) (h3 : 3 < w.heap.size) :
    Calls Tryf.prog 19 #[.string s, .string t] w (EgE s w) := by
  rcases high_first s with hl | ⟨i0, h1, h2, h4⟩
  · have hb : ∀ (u : ByteArray), u.size = 5 → (∀ k, k < 5 → byteAt u k < 128) → ∀ (j : Nat) b, u.data.toList[j]? = some b → b.toNat < 128 := fun u hu hk j b hj => by
      have hj2 : j < u.size := by
        have := (List.getElem?_eq_some_iff.1 hj).1
        simpa using this
      rw [Lib.data_getElem? u j hj2] at hj
      have := byteAt_get u j hj2
      rw [Option.some.inj hj] at this
      rw [this]; exact hk j (by omega)
    have hts : t.size = 5 := by have := ht.1; omega
    refine (Tryf.strings_EqualFold s t w (by omega) (hb s hs hl) (hb t hts (fun k hk => ?_))).mono ?_
    · rw [ht.2 k (by omega)]
      rcases sty_cases (0 + k) with h | h | h | h | h <;> rw [h] <;> omega
    · rintro e w' ⟨rfl, rfl⟩
      exact ⟨by rw [fold_lowsty s t hs ht], gb_refl _ _⟩
  · refine (ef_high s t hs ht i0 h1 h2 h4 w hF hR h3).mono ?_
    rintro e w' ⟨rfl, hg⟩
    exact ⟨by rw [low_high h1 h2], hg⟩
end Go.Proofs.YtemohaonhcmpkaaFmt
