/-
  The css lexer's tests on one code point, and Range.End. No statement of the seat is proved here.
-/
import Derived.Test.YtpgfepilblhpdaaDoorCssAt
namespace Go.Proofs.YtpgfepilblhpdaaDoor
open Go.RowKit
set_option linter.unusedVariables false
def nameStart (c : Int) : Bool := decide ((97 ≤ c ∧ c ≤ 122) ∨ (65 ≤ c ∧ c ≤ 90) ∨ c = 95 ∨ 128 ≤ c ∨ c = 0)
def nameCont (c : Int) : Bool := nameStart c || decide ((48 ≤ c ∧ c ≤ 57) ∨ c = 45)
def isNL (c : Int) : Bool := decide (c = 10 ∨ c = 13 ∨ c = 12)
def isWS (c : Int) : Bool := decide (c = 32 ∨ c = 9 ∨ c = 10 ∨ c = 13 ∨ c = 12)
theorem ns_any (c : Int) (w : World) : Calls Tryd.prog 25 #[.int .i32 c] w fun e w' => e = .returned (.bool (nameStart c)) ∧ w = w' := by
  rcases (show c < 0 ∨ c = 0 ∨ (0 < c ∧ c < 65) ∨ (65 ≤ c ∧ c ≤ 90) ∨ (90 < c ∧ c < 95) ∨ c = 95 ∨ (95 < c ∧ c < 97) ∨ (97 ≤ c ∧ c ≤ 122) ∨ (122 < c ∧ c < 128) ∨ 128 ≤ c by omega) with h | rfl | ⟨h1, h2⟩ | ⟨h1, h2⟩ | ⟨h1, h2⟩ | rfl | ⟨h1, h2⟩ | ⟨h1, h2⟩ | ⟨h1, h2⟩ | h
  case inr.inl => go_enter Tryd.func25, Tryd.ntmps25; go_wp2; go_ret; exact ⟨rfl, rfl⟩
  case inr.inr.inr.inr.inr.inl => go_enter Tryd.func25, Tryd.ntmps25; go_wp2; go_ret; exact ⟨rfl, rfl⟩
  all_goals
    have t1 : (c == 95) = false := beq_eq_false_iff_ne.2 (by omega)
    have t2 : (c == 0) = false := beq_eq_false_iff_ne.2 (by omega)
    first
      | (have R : nameStart c = true := by simp only [nameStart, decide_eq_true_eq]; omega
         have HR := Lib.hid R; clear R
         go_enter Tryd.func25, Tryd.ntmps25; go_wp2; go_ret; exact ⟨ret_bool HR.out.symm, rfl⟩)
      | (have R : nameStart c = false := by simp only [nameStart, decide_eq_false_iff_not]; omega
         have HR := Lib.hid R; clear R
         go_enter Tryd.func25, Tryd.ntmps25; go_wp2; go_ret; exact ⟨ret_bool (by rw [HR.out] <;> first | rfl | (simp only [decide_eq_false_iff_not]; omega) | (simp only [Bool.or_eq_false_iff, decide_eq_false_iff_not]; omega)), rfl⟩)
theorem nc_any (c : Int) (w : World) : Calls Tryd.prog 35 #[.int .i32 c] w fun e w' => e = .returned (.bool (nameCont c)) ∧ w = w' := by
  have hn := ns_any c w
  cases hs : nameStart c
  · have HS := Lib.hid hs
    rw [hs] at hn
    have HN := Lib.hid hn
    clear hs hn
    rcases (show c < 45 ∨ c = 45 ∨ (45 < c ∧ c < 48) ∨ (48 ≤ c ∧ c ≤ 57) ∨ 57 < c by omega) with h | rfl | ⟨h1, h2⟩ | ⟨h1, h2⟩ | h
    case inr.inl => go_enter Tryd.func35, Tryd.ntmps35; go_wp2_with (go_at_call 25; refine HN.out.mono ?_; rintro e w1 ⟨rfl, rfl⟩); go_ret; exact ⟨rfl, rfl⟩
    all_goals
      have t1 : (c == 45) = false := beq_eq_false_iff_ne.2 (by omega)
      first
        | (have R : nameCont c = true := by simp only [nameCont, HS.out, Bool.false_or, decide_eq_true_eq]; omega
           have HR := Lib.hid R; clear R
           go_enter Tryd.func35, Tryd.ntmps35; go_wp2_with (go_at_call 25; refine HN.out.mono ?_; rintro e w1 ⟨rfl, rfl⟩); go_ret; exact ⟨ret_bool HR.out.symm, rfl⟩)
        | (have R : nameCont c = false := by simp only [nameCont, HS.out, Bool.false_or, decide_eq_false_iff_not]; omega
           have HR := Lib.hid R; clear R
           go_enter Tryd.func35, Tryd.ntmps35; go_wp2_with (go_at_call 25; refine HN.out.mono ?_; rintro e w1 ⟨rfl, rfl⟩); go_ret; exact ⟨ret_bool (by rw [HR.out] <;> first | rfl | (simp only [decide_eq_false_iff_not]; omega)), rfl⟩)
  · have R : nameCont c = true := by simp only [nameCont, hs, Bool.true_or]
    have HR := Lib.hid R
    rw [hs] at hn
    have HN := Lib.hid hn
    clear hs hn R
    go_enter Tryd.func35, Tryd.ntmps35
    go_wp2_with (go_at_call 25; refine HN.out.mono ?_; rintro e w1 ⟨rfl, rfl⟩)
    go_ret
    exact ⟨ret_bool HR.out.symm, rfl⟩
theorem nl_any (c : Int) (w : World) : Calls Tryd.prog 30 #[.int .i32 c] w fun e w' => e = .returned (.bool (isNL c)) ∧ w = w' := by
  by_cases h : c = 10 ∨ c = 13 ∨ c = 12
  · rcases h with rfl | rfl | rfl <;> (go_enter Tryd.func30, Tryd.ntmps30; go_wp2; go_ret; exact ⟨rfl, rfl⟩)
  · have R : isNL c = false := by simp only [isNL, decide_eq_false_iff_not]; exact h
    have t1 : (c == 10) = false := beq_eq_false_iff_ne.2 (by omega)
    have t2 : (c == 13) = false := beq_eq_false_iff_ne.2 (by omega)
    have t3 : (c == 12) = false := beq_eq_false_iff_ne.2 (by omega)
    have HR := Lib.hid R
    clear h R
    go_enter Tryd.func30, Tryd.ntmps30
    go_wp2
    go_ret
    exact ⟨ret_bool HR.out.symm, rfl⟩
theorem ws_any (c : Int) (w : World) : Calls Tryd.prog 37 #[.int .i32 c] w fun e w' => e = .returned (.bool (isWS c)) ∧ w = w' := by
  by_cases h : c = 32 ∨ c = 9 ∨ c = 10 ∨ c = 13 ∨ c = 12
  · rcases h with rfl | rfl | rfl | rfl | rfl <;> (go_enter Tryd.func37, Tryd.ntmps37; go_wp2; go_ret; exact ⟨rfl, rfl⟩)
  · have R : isWS c = false := by simp only [isWS, decide_eq_false_iff_not]; exact h
    have t0 : (c == 32) = false := beq_eq_false_iff_ne.2 (by omega)
    have t9 : (c == 9) = false := beq_eq_false_iff_ne.2 (by omega)
    have t1 : (c == 10) = false := beq_eq_false_iff_ne.2 (by omega)
    have t2 : (c == 13) = false := beq_eq_false_iff_ne.2 (by omega)
    have t3 : (c == 12) = false := beq_eq_false_iff_ne.2 (by omega)
    have HR := Lib.hid R
    clear h R
    go_enter Tryd.func37, Tryd.ntmps37
    go_wp2
    go_ret
    exact ⟨ret_bool HR.out.symm, rfl⟩
/-- the value of a hexadecimal digit, and whether it is one -/
def hexOf (c : Int) : Int × Bool := if 48 ≤ c ∧ c ≤ 57 then (c - 48, true) else if 97 ≤ c ∧ c ≤ 102 then (c - 87, true) else if 65 ≤ c ∧ c ≤ 70 then (c - 55, true) else (0, false)
theorem hex_any (c : Int) (w : World) : Calls Tryd.prog 36 #[.int .i32 c] w fun e w' => e = .returned (.tuple #[.int .i64 (hexOf c).1, .bool (hexOf c).2]) ∧ w = w' := by
  rcases (show (48 ≤ c ∧ c ≤ 57) ∨ (97 ≤ c ∧ c ≤ 102) ∨ (65 ≤ c ∧ c ≤ 70) ∨ c < 48 ∨ (57 < c ∧ c < 65) ∨ (70 < c ∧ c < 97) ∨ 102 < c by omega) with ⟨h1, h2⟩ | ⟨h1, h2⟩ | ⟨h1, h2⟩ | h | ⟨h1, h2⟩ | ⟨h1, h2⟩ | h
  · have HR := Lib.hid (show hexOf c = (c - 48, true) by unfold hexOf; rw [if_pos ⟨h1, h2⟩])
    go_enter Tryd.func36, Tryd.ntmps36; go_wp2; go_ret2; rw [HR.out]; exact ⟨rfl, rfl⟩
  · have HR := Lib.hid (show hexOf c = (c - 87, true) by unfold hexOf; rw [if_neg (by omega), if_pos ⟨h1, h2⟩])
    go_enter Tryd.func36, Tryd.ntmps36; go_wp2; go_ret2; rw [HR.out]; exact ⟨by congr 3, rfl⟩
  · have HR := Lib.hid (show hexOf c = (c - 55, true) by unfold hexOf; rw [if_neg (by omega), if_neg (by omega), if_pos ⟨h1, h2⟩])
    go_enter Tryd.func36, Tryd.ntmps36; go_wp2; go_ret2; rw [HR.out]; exact ⟨by congr 3, rfl⟩
  all_goals
    have HR := Lib.hid (show hexOf c = (0, false) by unfold hexOf; rw [if_neg (by omega), if_neg (by omega), if_neg (by omega)])
    go_enter Tryd.func36, Tryd.ntmps36; go_wp2; go_ret2; rw [HR.out]; exact ⟨rfl, rfl⟩
end Go.Proofs.YtpgfepilblhpdaaDoor
