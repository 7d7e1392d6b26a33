/-
  The plain side of the base64 VLQ laws: digits of a number in base 32 with continuation bits, and the alphabet. No program in sight.
-/
import Derived.Test.YtfbeeekakfllpaaDoorInts
namespace Go.Proofs.YtfbeeekakfllpaaDoor

/-- the digits of V, the least first; all but the last bear the continuation bit (32) -/
def dgs : Nat → Nat → List Nat
  | 0, _ => []
  | n + 1, V => if V < 32 then [V] else (V % 32 + 32) :: dgs n (V / 32)
def val : List Nat → Nat
  | [] => 0
  | d :: t => d % 32 + 32 * val t

theorem dgs_pos (n V : Nat) : 1 ≤ (dgs (n + 1) V).length := by unfold dgs; split <;> simp
theorem dgs_le : ∀ n V, (dgs n V).length ≤ n
  | 0, _ => Nat.le_refl _
  | n + 1, V => by unfold dgs; split; · simp
                   · simpa using dgs_le n (V / 32)
theorem dgs_val : ∀ n V, V < 32 ^ n → val (dgs n V) = V
  | 0, V, h => by simp at h; subst h; rfl
  | n + 1, V, h => by
    unfold dgs
    split
    · next h1 => simp [val]; omega
    · next h1 =>
      have := dgs_val n (V / 32) (by rw [Nat.pow_succ] at h; omega)
      simp only [val, this]; omega
theorem dgs_lt : ∀ n V, ∀ d ∈ dgs n V, d < 64
  | 0, _, d, h => by simp [dgs] at h
  | n + 1, V, d, h => by
    unfold dgs at h
    split at h
    · simp at h; omega
    · simp at h
      rcases h with h | h
      · omega
      · exact dgs_lt n _ d h
/-- the continuation bit stands on all digits but the last -/
theorem dgs_cont : ∀ n V, V < 32 ^ n → ∀ k, k < (dgs n V).length → (32 ≤ (dgs n V).getD k 0 ↔ k + 1 < (dgs n V).length)
  | 0, _, _, k, h => by simp [dgs] at h
  | n + 1, V, hV, k, h => by
    have e : dgs (n + 1) V = if V < 32 then [V] else (V % 32 + 32) :: dgs n (V / 32) := rfl
    by_cases h1 : V < 32
    · rw [if_pos h1] at e
      rw [e] at h ⊢
      simp at h
      subst h
      simp; omega
    · rw [if_neg h1] at e
      rw [e] at h ⊢
      have hp : 0 < n := by
        rcases Nat.eq_zero_or_pos n with rfl | hp
        · simp at hV; omega
        · exact hp
      obtain ⟨m, rfl⟩ : ∃ m, n = m + 1 := ⟨n - 1, by omega⟩
      have hq := dgs_pos m (V / 32)
      cases k with
      | zero => simp; omega
      | succ k =>
        have := dgs_cont (m + 1) (V / 32) (by rw [Nat.pow_succ] at hV; omega) k (by simpa using h)
        simp only [List.getD_cons_succ, List.length_cons]
        omega
/-- no superfluous zero at the end -/
theorem dgs_last : ∀ n V, V < 32 ^ n → 1 < (dgs n V).length → (dgs n V).getD ((dgs n V).length - 1) 0 % 32 ≠ 0
  | 0, _, _, h => by simp [dgs] at h
  | n + 1, V, hV, h => by
    have e : dgs (n + 1) V = if V < 32 then [V] else (V % 32 + 32) :: dgs n (V / 32) := rfl
    by_cases h1 : V < 32
    · rw [if_pos h1] at e
      rw [e] at h
      simp at h
    · rw [if_neg h1] at e
      rw [e]
      have hp : 0 < n := by
        rcases Nat.eq_zero_or_pos n with rfl | hp
        · simp at hV; omega
        · exact hp
      obtain ⟨m, rfl⟩ : ∃ m, n = m + 1 := ⟨n - 1, by omega⟩
      have hq := dgs_pos m (V / 32)
      by_cases h2 : 1 < (dgs (m + 1) (V / 32)).length
      · have := dgs_last (m + 1) (V / 32) (by rw [Nat.pow_succ] at hV; omega) h2
        obtain ⟨q, hq⟩ : ∃ q, (dgs (m + 1) (V / 32)).length = q + 1 := ⟨(dgs (m + 1) (V / 32)).length - 1, by omega⟩
        rw [hq] at this
        simp only [List.length_cons, hq, Nat.add_sub_cancel, List.getD_cons_succ] at this ⊢
        exact this
      · have e2 : dgs (m + 1) (V / 32) = if V / 32 < 32 then [V / 32] else (V / 32 % 32 + 32) :: dgs m (V / 32 / 32) := rfl
        by_cases h3 : V / 32 < 32
        · rw [if_pos h3] at e2
          rw [e2]
          simp; omega
        · exfalso
          rw [if_neg h3] at e2
          rw [e2] at h2
          have hm : 0 < m := by
            rcases Nat.eq_zero_or_pos m with rfl | hp
            · simp at hV; omega
            · exact hp
          obtain ⟨j, rfl⟩ : ∃ j, m = j + 1 := ⟨m - 1, by omega⟩
          have := dgs_pos j (V / 32 / 32)
          simp at h2
          simp [h2] at this
theorem val_drop (D : List Nat) (k : Nat) (h : k < D.length) : val (D.drop k) = D.getD k 0 % 32 + 32 * val (D.drop (k + 1)) := by
  rw [List.drop_eq_getElem_cons h]
  simp [val, h]

theorem val_drop_le (D : List Nat) : ∀ k, val (D.drop k) ≤ val D := by
  intro k
  induction k with
  | zero => simp
  | succ k ih =>
    by_cases h : k < D.length
    · have := val_drop D k h; omega
    · rw [List.drop_eq_nil_of_le (by omega)]; simp [val]

/-- the alphabet -/
def b64 : List Nat := [65, 66, 67, 68, 69, 70, 71, 72, 73, 74, 75, 76, 77, 78, 79, 80, 81, 82, 83, 84, 85, 86, 87, 88, 89, 90, 97, 98, 99, 100, 101, 102, 103, 104, 105, 106, 107, 108, 109, 110, 111, 112, 113, 114, 115, 116, 117, 118, 119, 120, 121, 122, 48, 49, 50, 51, 52, 53, 54, 55, 56, 57, 43, 47]
def b64at (d : Nat) : Nat := b64.getD d 0
/-- a digit's value by ranges; -1 beyond the alphabet -/
def bi (c : Int) : Int := if 65 ≤ c ∧ c ≤ 90 then c - 65 else if 97 ≤ c ∧ c ≤ 122 then c - 97 + 26 else if 48 ≤ c ∧ c ≤ 57 then c - 48 + 52 else if c = 43 then 62 else if c = 47 then 63 else -1
theorem bi_b64 : ∀ d, d < 64 → bi (b64at d : Nat) = d := by decide
theorem b64_lt : ∀ d, d < 64 → b64at d < 128 := by decide
theorem bi_bd (c : Int) : -1 ≤ bi c ∧ bi c ≤ 63 := by unfold bi; (repeat' split) <;> omega
end Go.Proofs.YtfbeeekakfllpaaDoor
