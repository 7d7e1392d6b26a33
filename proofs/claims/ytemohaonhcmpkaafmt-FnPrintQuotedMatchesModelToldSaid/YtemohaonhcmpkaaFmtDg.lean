/-
  Runes of a text: the byte at a place, what DecodeRuneInString gives there. No statement of the seat is proved here.
-/
import Derived.Test.YtemohaonhcmpkaaFmtBase
import Derived.Test.YtemohaonhcmpkaaFmtShelf
import Derived.IntWalk
namespace Go.Proofs.YtemohaonhcmpkaaFmt
open Go.RowKit
set_option linter.unusedVariables false
/-- the byte at i (0 beyond the end) -/
def byteAt (s : ByteArray) (i : Nat) : Nat := (s.get! i).toNat
theorem byteAt_lt (s : ByteArray) (i : Nat) : byteAt s i < 256 := (s.get! i).toNat_lt
theorem byteAt_get (s : ByteArray) (i : Nat) (h : i < s.size) : (s[i]'h).toNat = byteAt s i := by unfold byteAt; rw [get!_at s i h]
theorem ext_get! (s : ByteArray) (pos i : Nat) : (s.extract pos s.size).get! i = s.get! (pos + i) := by
  have hz : (s.extract pos s.size).size = s.size - pos := by simp
  by_cases h : i < s.size - pos
  · rw [get!_at _ i (by rw [hz]; exact h), get!_at s (pos + i) (by omega)]
    simp [ByteArray.getElem_extract]
  · rw [get!_out _ i (by rw [hz]; omega), get!_out s (pos + i) (by omega)]
theorem dec_ext (s : ByteArray) (pos : Nat) (h : pos < s.size) : Lib.decodeGo (s.extract pos s.size) = Utf8.decode s pos := by
  have hz : (s.extract pos s.size).size = s.size - pos := by simp
  unfold Lib.decodeGo
  rw [if_neg (by omega), Lib.decode_at, Lib.decode_at, hz, ext_get!, ext_get!, ext_get!, ext_get!]
  simp only [Nat.sub_zero, Nat.add_zero, Nat.zero_add]
theorem dec_ext_end (s : ByteArray) (pos : Nat) (h : s.size ≤ pos) : Lib.decodeGo (s.extract pos s.size) = (65533, 0) := by
  have hz : (s.extract pos s.size).size = 0 := by simp; omega
  unfold Lib.decodeGo
  rw [if_pos hz]
theorem width_le (s : ByteArray) (pos : Nat) (h : pos < s.size) : 1 ≤ (Utf8.decode s pos).2 ∧ pos + (Utf8.decode s pos).2 ≤ s.size := by
  refine ⟨width_pos s pos h, ?_⟩
  by_cases ha : (s[pos]'h).toNat < 128
  · rw [decode_ascii s pos h ha]; show pos + 1 ≤ s.size; omega
  · exact (high_bytes s pos h (by omega)).1
theorem tabs_below {g3 g4 B : Nat} {w w' : World} (h : Lib.Utf8Tabs g3 g4 w) (hb : Below B w w') (h3 : g3 < B) (h4 : g4 < B) : Lib.Utf8Tabs g3 g4 w' :=
  ⟨fun c hc => (hb.cell (p := ⟨g3, c, none⟩) h3).trans (h.1 c hc), fun i hi => ⟨(hb.cell (p := ⟨g4, 2 * i, none⟩) h4).trans (h.2 i hi).1, (hb.cell (p := ⟨g4, 2 * i + 1, none⟩) h4).trans (h.2 i hi).2⟩⟩
/-- what DecodeRuneInString gives for the text from n on -/
def dg (s : ByteArray) (n : Nat) : Nat × Nat := if n < s.size then Utf8.decode s n else (65533, 0)
theorem dg_go (s : ByteArray) (n : Nat) : Lib.decodeGo (s.extract n s.size) = dg s n := by
  unfold dg
  split
  · exact dec_ext s n (by omega)
  · exact dec_ext_end s n (by omega)
theorem dg_le (s : ByteArray) (n : Nat) (h : n ≤ s.size) : n + (dg s n).2 ≤ s.size := by
  unfold dg
  split
  · exact (width_le s n (by omega)).2
  · exact h
theorem dg_pos (s : ByteArray) (n : Nat) (h : n < s.size) : 1 ≤ (dg s n).2 := by
  unfold dg; rw [if_pos h]; exact (width_le s n h).1
theorem dg_ascii (s : ByteArray) (n : Nat) (h : n < s.size) (hb : byteAt s n < 128) : dg s n = (byteAt s n, 1) := by
  have := byteAt_get s n h
  unfold dg; rw [if_pos h, decode_ascii s n h (by omega), this]
theorem dg_high (s : ByteArray) (n : Nat) (h : n < s.size) (hb : 128 ≤ byteAt s n) : 128 ≤ (dg s n).1 ∧ ∀ j, n ≤ j → j < n + (dg s n).2 → 128 ≤ byteAt s j := by
  have hg := byteAt_get s n h
  have h1 := decode_high s n h (by omega)
  have h2 := high_bytes s n h (by omega)
  unfold dg; rw [if_pos h]
  exact ⟨by omega, h2.2⟩
/-- a code point below 128 is the byte at its place -/
theorem dg_small (s : ByteArray) (n : Nat) {c W : Nat} (hn : n < s.size) (h : dg s n = (c, W)) (h1 : c < 128) : byteAt s n = c ∧ W = 1 := by
  by_cases hb : byteAt s n < 128
  · rw [dg_ascii s n hn hb] at h; cases h; exact ⟨rfl, rfl⟩
  · have := (dg_high s n hn (by omega)).1
    rw [h] at this; simp only at this; omega
/-- no rune goes over an ASCII byte -/
theorem dg_cross {s : ByteArray} {q K : Nat} (hq : q < K) (hK : K < s.size) (ha : byteAt s K < 128) : q + (dg s q).2 ≤ K := by
  by_cases hb : byteAt s q < 128
  · rw [dg_ascii s q (by omega) hb]; show q + 1 ≤ K; omega
  · have hj := (dg_high s q (by omega) (by omega)).2
    by_cases c : q + (dg s q).2 ≤ K
    · exact c
    · have := hj K (by omega) (by omega); omega
theorem dg_max (s : ByteArray) (n : Nat) {c W : Nat} (h : dg s n = (c, W)) : c ≤ 1114111 := by
  unfold dg at h
  split at h
  · have : (Utf8.decode s n).1 ≤ 1114111 := by
      rw [Lib.decode_at]
      have q0 := (s.get! n).toNat_lt
      have q1 := (s.get! (n + 1)).toNat_lt
      have q2 := (s.get! (n + 2)).toNat_lt
      have q3 := (s.get! (n + 3)).toNat_lt
      generalize (s.get! n).toNat = b0 at *
      generalize (s.get! (n + 1)).toNat = b1 at *
      generalize (s.get! (n + 2)).toNat = b2 at *
      generalize (s.get! (n + 3)).toNat = b3 at *
      unfold Lib.decodeN
      repeat' split
      all_goals (simp only; omega)
    rw [h] at this; exact this
  · cases h; decide
theorem dri2 (s : ByteArray) (n x W : Nat) (w : World) (ht : Lib.Utf8Tabs 0 1 w) (h : dg s n = (x, W)) : Calls Tryf.prog 17 #[.string (s.extract n s.size)] w fun e w' => e = .returned (.tuple #[.int .i32 x, .int .i64 W]) ∧ Below w.heap.size w w' := by
  have := Tryf.utf8_DecodeRuneInString (s.extract n s.size) w ht
  rwa [dg_go, h] at this
end Go.Proofs.YtemohaonhcmpkaaFmt
