/-
  Small functions of FnAppendChunk's law: a digit's value, a digit's byte, a separator. No statement of the seat is proved here.
-/
import Derived.Test.YtoegmcakolidbaaDoorRows
import Derived.Test.YtoegmcakolidbaaDoorAmb
namespace Go.Proofs.YtoegmcakolidbaaDoor
open Go.RowKit
set_option linter.unusedVariables false
theorem bi_any (c : Int) (w : World) (h0 : 0 ≤ c) (h1 : c ≤ 255) : Calls Tryd.prog 34 #[.int .u8 c] w fun e w' => e = .returned (.int .i64 (bi c)) ∧ w = w' := by
  obtain ⟨r, hr⟩ : ∃ r, r = bi c := ⟨_, rfl⟩
  rw [← hr]
  have HR := Lib.hid hr
  clear hr
  by_cases k1 : 65 ≤ c ∧ c ≤ 90
  · obtain ⟨k1, k2⟩ := k1
    go_enter Tryd.func34, Tryd.ntmps34
    go_wp2
    go_ret
    exact ⟨ret_int (by rw [HR.out, bi, if_pos ⟨k1, k2⟩]), rfl⟩
  by_cases k2 : 97 ≤ c ∧ c ≤ 122
  · obtain ⟨k3, k4⟩ := k2
    have d1 : ¬ c ≤ 90 := by omega
    go_enter Tryd.func34, Tryd.ntmps34
    go_wp2
    go_ret
    exact ⟨ret_int (by rw [HR.out, bi, if_neg k1, if_pos ⟨k3, k4⟩]), rfl⟩
  by_cases k3 : 48 ≤ c ∧ c ≤ 57
  · obtain ⟨k4, k5⟩ := k3
    have d1 : ¬ 65 ≤ c := by omega
    have d2 : ¬ 97 ≤ c := by omega
    go_enter Tryd.func34, Tryd.ntmps34
    go_wp2
    go_ret
    exact ⟨ret_int (by rw [HR.out, bi, if_neg k1, if_neg k2, if_pos ⟨k4, k5⟩]), rfl⟩
  by_cases k4 : c = 43
  · subst k4
    go_enter Tryd.func34, Tryd.ntmps34
    go_wp2
    go_ret
    exact ⟨ret_int (by rw [HR.out]; rfl), rfl⟩
  by_cases k5 : c = 47
  · subst k5
    go_enter Tryd.func34, Tryd.ntmps34
    go_wp2
    go_ret
    exact ⟨ret_int (by rw [HR.out]; rfl), rfl⟩
  have b1 : (c == 43) = false := by simpa using k4
  have b2 : (c == 47) = false := by simpa using k5
  have e : HR.out = HR.out := rfl
  have HB : Hid (bi c = -1) := Lib.hid (by rw [bi, if_neg k1, if_neg k2, if_neg k3, if_neg k4, if_neg k5])
  have hcase : c < 48 ∨ (57 < c ∧ c < 65) ∨ (90 < c ∧ c < 97) ∨ 122 < c := by omega
  clear k1 k2 k3 k4 k5 e
  rcases hcase with k | ⟨k, k'⟩ | ⟨k, k'⟩ | k
  all_goals
    go_enter Tryd.func34, Tryd.ntmps34
    go_wp2
    go_ret
    exact ⟨ret_int (by rw [HR.out, HB.out]), rfl⟩
theorem b64_r1 : ∀ d, d < 26 → b64at d = d + 65 := by decide
theorem b64_r2 : ∀ d, d < 26 → b64at (d + 26) = d + 97 := by decide
theorem b64_r3 : ∀ d, d < 10 → b64at (d + 52) = d + 48 := by decide
theorem digit_any (d : Nat) (w : World) (hd : d < 64) : Calls Tryd.prog 29 #[.int .i64 d] w fun e w' => e = .returned (.int .u8 (b64at d : Nat)) ∧ w = w' := by
  rcases (show d < 26 ∨ (26 ≤ d ∧ d < 52) ∨ (52 ≤ d ∧ d < 62) ∨ d = 62 ∨ d = 63 by omega) with h | ⟨h1, h2⟩ | ⟨h1, h2⟩ | rfl | rfl
  · have e := Lib.hid (b64_r1 d h)
    go_enter Tryd.func29, Tryd.ntmps29
    go_wp2
    go_ret
    exact ⟨ret_int (by rw [e.out]; omega), rfl⟩
  · have e := Lib.hid (b64_r2 (d - 26) (by omega))
    rw [show d - 26 + 26 = d by omega] at e
    have d1 : decide (d < 26) = false := decide_eq_false (by omega)
    go_enter Tryd.func29, Tryd.ntmps29
    go_wp2
    go_ret
    exact ⟨ret_int (by rw [e.out]; omega), rfl⟩
  · have e := Lib.hid (b64_r3 (d - 52) (by omega))
    rw [show d - 52 + 52 = d by omega] at e
    have d1 : decide (d < 26) = false := decide_eq_false (by omega)
    have d2 : decide (d < 52) = false := decide_eq_false (by omega)
    go_enter Tryd.func29, Tryd.ntmps29
    go_wp2
    go_ret
    exact ⟨ret_int (by rw [e.out]; omega), rfl⟩
  · go_enter Tryd.func29, Tryd.ntmps29
    go_wp2
    go_ret
    exact ⟨rfl, rfl⟩
  · go_enter Tryd.func29, Tryd.ntmps29
    go_wp2
    go_ret
    exact ⟨rfl, rfl⟩
theorem sep_yes (c : Int) (w : World) (h : c = 44 ∨ c = 59) : Calls Tryd.prog 27 #[.int .u8 c] w fun e w' => e = .returned (.bool true) ∧ w = w' := by
  rcases h with rfl | rfl
  · go_enter Tryd.func27, Tryd.ntmps27
    go_wp2
    go_ret
    exact ⟨rfl, rfl⟩
  · go_enter Tryd.func27, Tryd.ntmps27
    go_wp2
    go_ret
    exact ⟨rfl, rfl⟩
theorem sep_no (c : Int) (w : World) (h : c ≠ 44 ∧ c ≠ 59) : Calls Tryd.prog 27 #[.int .u8 c] w fun e w' => e = .returned (.bool false) ∧ w = w' := by
  have h1 : (c == 44) = false := beq_eq_false_iff_ne.2 h.1
  have h2 : (c == 59) = false := beq_eq_false_iff_ne.2 h.2
  clear h
  go_enter Tryd.func27, Tryd.ntmps27
  go_wp2
  go_ret
  exact ⟨rfl, rfl⟩
end Go.Proofs.YtoegmcakolidbaaDoor
