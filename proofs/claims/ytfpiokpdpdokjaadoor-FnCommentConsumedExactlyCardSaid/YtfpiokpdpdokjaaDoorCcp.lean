/-
  A terminated comment, plain: where it ends, what it holds. No program in sight.
-/
import Derived.Test.YtfpiokpdpdokjaaDoorCssAt
namespace Go.Proofs.YtfpiokpdpdokjaaDoor
open Go.RowKit
set_option linter.unusedVariables false
theorem no_cross {s : ByteArray} {q K : Nat} (hq : q ≤ K) (hK : K < s.size) (ha : byteAt s K < 128) (hne : q ≠ K) : q + (decAt s q).2 ≤ K := by
  have hl : q < s.size := by omega
  by_cases hb : byteAt s q < 128
  · rw [decAt_ascii s q hl hb]; show q + 1 ≤ K; omega
  · obtain ⟨_, _, _, hj⟩ := decAt_high s q hl (by omega)
    by_cases c : q + (decAt s q).2 ≤ K
    · exact c
    · have := hj K hq (by omega); omega
def HasAt (s p : ByteArray) (i : Nat) : Prop := i + p.size ≤ s.size ∧ ∀ j, j < p.size → byteAt s (i + j) = byteAt p j
def Has (s p : ByteArray) : Prop := ∃ i, HasAt s p i
theorem hp_at (s p : ByteArray) (i : Nat) (hi : i ≤ s.size) : Lib.hasPrefix (s.extract i s.size).data.toList p.data.toList = true ↔ HasAt s p i := by
  have hsz : (s.extract i s.size).size = s.size - i := by simp
  unfold Lib.hasPrefix HasAt
  rw [List.isPrefixOf_iff_prefix, List.prefix_iff_getElem]
  constructor
  · rintro ⟨h1, h2⟩
    have h1' : p.size ≤ (s.extract i s.size).size := h1
    refine ⟨by omega, fun j hj => ?_⟩
    have h3 := h2 j hj
    unfold byteAt
    rw [← ext_get!, get!_at _ j (by omega), get!_at p j hj]
    exact (congrArg UInt8.toNat h3).symm
  · rintro ⟨h1, h2⟩
    have h1' : p.size ≤ (s.extract i s.size).size := by omega
    refine ⟨h1', fun j hj => ?_⟩
    have hj' : j < p.size := hj
    have h3 := h2 j hj'
    unfold byteAt at h3
    rw [← ext_get!, get!_at _ j (by omega), get!_at p j hj'] at h3
    exact (UInt8.toNat_inj.1 h3).symm
theorem ba_ext {a b : ByteArray} (h : a.size = b.size) (hb : ∀ i, i < a.size → byteAt a i = byteAt b i) : a = b := by
  apply ByteArray.ext
  apply Array.ext
  · exact h
  · intro i h1 h2
    have h3 := hb i h1
    unfold byteAt at h3
    rw [get!_at a i h1, get!_at b i h2] at h3
    exact UInt8.toNat_inj.1 h3
theorem byteAt_ext (s : ByteArray) (a b i : Nat) (hb : b ≤ s.size) (hi : a + i < b) : byteAt (s.extract a b) i = byteAt s (a + i) := by
  have hz : (s.extract a b).size = b - a := by simp; omega
  unfold byteAt
  rw [get!_at _ i (by rw [hz]; omega), get!_at s (a + i) (by omega)]
  simp [ByteArray.getElem_extract]
theorem byteAt_left (a b : ByteArray) (i : Nat) (h : i < a.size) : byteAt (a ++ b) i = byteAt a i := by
  unfold byteAt
  rw [get!_at _ i (by simp; omega), get!_at a i h, ByteArray.getElem_append_left h]
theorem byteAt_right (a b : ByteArray) (i : Nat) : byteAt (a ++ b) (a.size + i) = byteAt b i := by
  unfold byteAt
  by_cases h : i < b.size
  · rw [get!_at _ (a.size + i) (by simp; omega), get!_at b i h, ByteArray.getElem_append_right (by omega)]
    simp
  · rw [get!_out _ _ (by simp; omega), get!_out b i (by omega)]
/-- s begins with the comment around bd -/
structure Cm (s bd : ByteArray) : Prop where
  sz : bd.size + 4 ≤ s.size
  b0 : byteAt s 0 = 47
  b1 : byteAt s 1 = 42
  bb : ∀ i, i < bd.size → byteAt s (2 + i) = byteAt bd i
  e0 : byteAt s (bd.size + 2) = 42
  e1 : byteAt s (bd.size + 3) = 47
theorem cm_of (bd tl : ByteArray) : Cm ((((⟨#[47, 42]⟩ : ByteArray) ++ bd) ++ ⟨#[42, 47]⟩) ++ tl) bd := by
  have z1 : ((⟨#[47, 42]⟩ : ByteArray)).size = 2 := rfl
  have z2 : ((⟨#[42, 47]⟩ : ByteArray)).size = 2 := rfl
  have h3 : ((((⟨#[47, 42]⟩ : ByteArray) ++ bd) ++ ⟨#[42, 47]⟩)).size = bd.size + 4 := by rw [ByteArray.size_append, ByteArray.size_append, z1, z2]; omega
  have h2 : (((⟨#[47, 42]⟩ : ByteArray) ++ bd)).size = bd.size + 2 := by rw [ByteArray.size_append, z1]; omega
  refine ⟨?_, ?_, ?_, ?_, ?_, ?_⟩
  · rw [ByteArray.size_append, h3]; omega
  · rw [byteAt_left _ _ _ (by omega), byteAt_left _ _ _ (by omega), byteAt_left _ _ _ (by omega)]; rfl
  · rw [byteAt_left _ _ _ (by omega), byteAt_left _ _ _ (by omega), byteAt_left _ _ _ (by omega)]; rfl
  · intro i hi
    rw [byteAt_left _ _ _ (by omega), byteAt_left _ _ _ (by omega)]
    exact byteAt_right ⟨#[47, 42]⟩ bd i
  · rw [byteAt_left _ _ _ (by omega)]
    have := byteAt_right ((⟨#[47, 42]⟩ : ByteArray) ++ bd) ⟨#[42, 47]⟩ 0
    rw [h2] at this
    exact this
  · rw [byteAt_left _ _ _ (by omega)]
    have := byteAt_right ((⟨#[47, 42]⟩ : ByteArray) ++ bd) ⟨#[42, 47]⟩ 1
    rw [h2] at this
    exact this
section
variable {s bd : ByteArray}
theorem Cm.mid (h : Cm s bd) (hn : ¬ Has bd ⟨#[42, 47]⟩) {q : Nat} (h2 : 2 ≤ q) (hq : q < bd.size + 2) (hb : byteAt s q = 42) : byteAt s (q + 1) ≠ 47 := by
  intro hc
  rcases (show q = bd.size + 1 ∨ q < bd.size + 1 by omega) with rfl | hlt
  · have e := h.e0
    rw [show bd.size + 2 = bd.size + 1 + 1 from rfl] at e
    omega
  · refine hn ⟨q - 2, by show q - 2 + 2 ≤ bd.size; omega, fun j hj => ?_⟩
    have hj' : j < 2 := hj
    have h3 := h.bb (q - 2 + j) (by omega)
    rw [← h3, show 2 + (q - 2 + j) = q + j by omega]
    match j, hj' with
    | 0, _ => exact hb
    | 1, _ => exact hc
/-- what holds no star and no slash lies inside -/
theorem Cm.inside (h : Cm s bd) (P : ByteArray) (hP : 1 ≤ P.size) (hne : ∀ j, j < P.size → byteAt P j ≠ 42 ∧ byteAt P j ≠ 47) {i : Nat} (hi : i ≤ bd.size + 3) (hh : ∀ j, j < P.size → byteAt s (i + j) = byteAt P j) : 2 ≤ i ∧ HasAt bd P (i - 2) := by
  have h0 := h.b0
  have h1 := h.b1
  have e0 := h.e0
  have e1 := h.e1
  have hi2 : 2 ≤ i := by
    rcases (show i = 0 ∨ i = 1 ∨ 2 ≤ i by omega) with rfl | rfl | c
    · have := hh 0 (by omega); have := hne 0 (by omega); simp at *; omega
    · have := hh 0 (by omega); have := hne 0 (by omega); simp at *; omega
    · exact c
  have hle : i + P.size ≤ bd.size + 2 := by
    rcases (show i + P.size ≤ bd.size + 2 ∨ bd.size + 2 < i + P.size by omega) with c | c
    · exact c
    · rcases (show i = bd.size + 3 ∨ i ≤ bd.size + 2 by omega) with c2 | c2
      · have k1 := hh 0 (by omega); have k2 := (hne 0 (by omega)).2; rw [Nat.add_zero, c2, e1] at k1; omega
      · have k1 := hh (bd.size + 2 - i) (by omega); have k2 := (hne (bd.size + 2 - i) (by omega)).1; rw [show i + (bd.size + 2 - i) = bd.size + 2 by omega, e0] at k1; omega
  refine ⟨hi2, by omega, fun j hj => ?_⟩
  rw [← hh j hj, ← h.bb (i - 2 + j) (by omega)]
  congr 1; omega
theorem Cm.outside (h : Cm s bd) {P : ByteArray} {i : Nat} (hh : HasAt bd P i) : HasAt s P (i + 2) := by
  have := h.sz
  refine ⟨by have := hh.1; omega, fun j hj => ?_⟩
  rw [← hh.2 j hj, ← h.bb (i + j) (by have := hh.1; omega)]
  congr 1; omega
end
/-- where a run of bytes that are no white space ends -/
theorem run_ex (f : Nat → Bool) : ∀ n, ∃ K, K ≤ n ∧ (∀ i, i < K → f i = false) ∧ (K = n ∨ f K = true)
  | 0 => ⟨0, Nat.le_refl _, fun i h => by omega, .inl rfl⟩
  | n + 1 => by
    obtain ⟨K, h1, h2, h3⟩ := run_ex f n
    rcases h3 with rfl | h3
    · rcases hf : f K with _ | _
      · exact ⟨K + 1, Nat.le_refl _, fun i hi => by rcases (show i = K ∨ i < K by omega) with rfl | h; exact hf; exact h2 i h, .inl rfl⟩
      · exact ⟨K, by omega, h2, .inr hf⟩
    · exact ⟨K, by omega, h2, .inr h3⟩
end Go.Proofs.YtfpiokpdpdokjaaDoor
