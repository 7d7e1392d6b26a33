/-
  Plain facts for RangeOfIdentifier's bounds: stoppers, name runs. No statement of the seat is proved here.
-/
import Derived.Test.YtpgfepilblhpdaaDoorCssWsi
namespace Go.Proofs.YtpgfepilblhpdaaDoor
open Go.RowKit
set_option linter.unusedVariables false
/-- a byte that no branch of the identifier scan can take -/
def stopB (b : Nat) : Bool := decide (b < 128) && !nameCont (b : Int) && !decide (b = 92) && !isWS (b : Int)
def StopAt (s : ByteArray) (K : Nat) : Prop := K < s.size ∧ stopB (byteAt s K) = true
theorem stop_facts {b : Nat} (h : stopB b = true) : b < 128 ∧ nameCont (b : Int) = false ∧ b ≠ 92 ∧ isWS (b : Int) = false := by
  unfold stopB at h
  simp only [Bool.and_eq_true, Bool.not_eq_true', decide_eq_true_eq, decide_eq_false_iff_not] at h
  exact ⟨h.1.1.1, h.1.1.2, h.1.2, h.2⟩
theorem no_cross {s : ByteArray} {q K : Nat} (hq : q ≤ K) (hK : K < s.size) (ha : byteAt s K < 128) (hne : q ≠ K) : q + (decAt s q).2 ≤ K := by
  have hl : q < s.size := by omega
  by_cases hb : byteAt s q < 128
  · rw [decAt_ascii s q hl hb]; show q + 1 ≤ K; omega
  · obtain ⟨_, _, _, hj⟩ := decAt_high s q hl (by omega)
    by_cases c : q + (decAt s q).2 ≤ K
    · exact c
    · have := hj K hq (by omega); omega
theorem dec_stop {s : ByteArray} {K : Nat} (h : StopAt s K) : decAt s K = ((byteAt s K : Int), 1) := decAt_ascii s K h.1 (stop_facts h.2).1
theorem name_high (c : Int) (h : 128 ≤ c) : nameCont c = true := by unfold nameCont nameStart; simp; omega
/-- a name byte reads as a name's code point -/
theorem cont_of_byte {s : ByteArray} {q : Nat} (hl : q < s.size) (h : nameCont (byteAt s q : Int) = true) : nameCont (decAt s q).1 = true := by
  by_cases hb : byteAt s q < 128
  · rw [decAt_ascii s q hl hb]; exact h
  · exact name_high _ (decAt_high s q hl (by omega)).1
/-- how many bytes from a on are name bytes, k at most -/
def runN (s : ByteArray) (a : Nat) : Nat → Nat
  | 0 => 0
  | k + 1 => if runN s a k = k ∧ a + k < s.size ∧ nameCont (byteAt s (a + k) : Int) = true then k + 1 else runN s a k
end Go.Proofs.YtpgfepilblhpdaaDoor
