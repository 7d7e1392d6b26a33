/-
  The law file's own byte classes (n011_187). No statement of the seat is proved here.
-/
import Derived.Test.YtpgfepilblhpdaaDoorRoiP
namespace Go.Proofs.YtpgfepilblhpdaaDoor
open Go.RowKit
set_option linter.unusedVariables false
def nsB (c : Nat) : Bool := decide ((97 ≤ c ∧ c ≤ 122) ∨ (65 ≤ c ∧ c ≤ 90) ∨ c = 95 ∨ c = 0)
set_option maxRecDepth 100000 in
theorem nsb3_any (c : Nat) (w : World) : Calls Tryd.prog 33 #[.int .u8 c] w fun e w' => e = .returned (.bool (nsB c)) ∧ w = w' := by
  rcases (show c = 0 ∨ (0 < c ∧ c < 65) ∨ (65 ≤ c ∧ c ≤ 90) ∨ (90 < c ∧ c < 95) ∨ c = 95 ∨ (95 < c ∧ c < 97) ∨ (97 ≤ c ∧ c ≤ 122) ∨ 122 < c by omega) with rfl | ⟨h1, h2⟩ | ⟨h1, h2⟩ | ⟨h1, h2⟩ | rfl | ⟨h1, h2⟩ | ⟨h1, h2⟩ | h
  case inl => go_enter Tryd.func33, Tryd.ntmps33; go_wp2; go_ret; exact ⟨rfl, rfl⟩
  case inr.inr.inr.inr.inl => go_enter Tryd.func33, Tryd.ntmps33; go_wp2; go_ret; exact ⟨rfl, rfl⟩
  all_goals
    have t1 : ((c : Int) == 95) = false := beq_eq_false_iff_ne.2 (by omega)
    have t2 : ((c : Int) == 0) = false := beq_eq_false_iff_ne.2 (by omega)
    first
      | (have R : nsB c = true := by simp only [nsB, decide_eq_true_eq]; omega
         have HR := Lib.hid R; clear R
         go_enter Tryd.func33, Tryd.ntmps33; go_wp2; go_ret; exact ⟨ret_bool (by rw [HR.out] <;> first | rfl | (simp; omega)), rfl⟩)
      | (have R : nsB c = false := by simp only [nsB, decide_eq_false_iff_not]; omega
         have HR := Lib.hid R; clear R
         go_enter Tryd.func33, Tryd.ntmps33; go_wp2; go_ret; exact ⟨ret_bool (by rw [HR.out] <;> first | rfl | (simp; omega)), rfl⟩)
set_option maxRecDepth 100000 in
theorem ncb3_any (c : Nat) (w : World) : Calls Tryd.prog 26 #[.int .u8 c] w fun e w' => e = .returned (.bool (nameCont (c : Int))) ∧ w = w' := by
  by_cases hh : 128 ≤ c
  · have HR := Lib.hid (name_high (c : Int) (by omega))
    go_enter Tryd.func26, Tryd.ntmps26
    go_wp2_with fail
    go_ret
    exact ⟨ret_bool (by rw [HR.out] <;> first | rfl | (simp; omega)), rfl⟩
  · have hh' : c < 128 := by omega
    have hn := nsb3_any c w
    cases hs : nsB c
    · have HS := Lib.hid hs
      rw [hs] at hn
      have HN := Lib.hid hn
      unfold nsB at hs
      simp only [decide_eq_false_iff_not] at hs
      rcases (show c < 45 ∨ c = 45 ∨ (45 < c ∧ c < 48) ∨ (48 ≤ c ∧ c ≤ 57) ∨ 57 < c by omega) with h | rfl | ⟨h1, h2⟩ | ⟨h1, h2⟩ | h
      case inr.inl => clear hs hn; go_enter Tryd.func26, Tryd.ntmps26; go_wp2_with (go_at_call 33; refine HN.out.mono ?_; rintro e w1 ⟨rfl, rfl⟩); go_ret; exact ⟨rfl, rfl⟩
      all_goals
        have t1 : ((c : Int) == 45) = false := beq_eq_false_iff_ne.2 (by omega)
        first
          | (have R : nameCont (c : Int) = true := by unfold nameCont nameStart; simp only [Bool.or_eq_true, decide_eq_true_eq]; omega
             have HR := Lib.hid R; clear R hs hn hh
             go_enter Tryd.func26, Tryd.ntmps26; go_wp2_with (go_at_call 33; refine HN.out.mono ?_; rintro e w1 ⟨rfl, rfl⟩); go_ret; exact ⟨ret_bool (by rw [HR.out] <;> first | rfl | (simp; omega)), rfl⟩)
          | (have R : nameCont (c : Int) = false := by unfold nameCont nameStart; simp only [Bool.or_eq_false_iff, decide_eq_false_iff_not]; omega
             have HR := Lib.hid R; clear R hs hn hh
             go_enter Tryd.func26, Tryd.ntmps26; go_wp2_with (go_at_call 33; refine HN.out.mono ?_; rintro e w1 ⟨rfl, rfl⟩); go_ret; exact ⟨ret_bool (by rw [HR.out] <;> first | rfl | (simp; omega)), rfl⟩)
    · have R : nameCont (c : Int) = true := by unfold nsB at hs; unfold nameCont nameStart; simp only [decide_eq_true_eq] at hs; simp only [Bool.or_eq_true, decide_eq_true_eq]; omega
      have HR := Lib.hid R
      rw [hs] at hn
      have HN := Lib.hid hn
      clear hs hn R hh
      go_enter Tryd.func26, Tryd.ntmps26
      go_wp2_with (go_at_call 33; refine HN.out.mono ?_; rintro e w1 ⟨rfl, rfl⟩)
      go_ret
      exact ⟨ret_bool HR.out.symm, rfl⟩
theorem nlb3_any (c : Nat) (w : World) : Calls Tryd.prog 34 #[.int .u8 c] w fun e w' => e = .returned (.bool (isNL (c : Int))) ∧ w = w' := by
  by_cases h : c = 10 ∨ c = 13 ∨ c = 12
  · rcases h with rfl | rfl | rfl <;> (go_enter Tryd.func34, Tryd.ntmps34; go_wp2; go_ret; exact ⟨rfl, rfl⟩)
  · have R : isNL (c : Int) = false := by simp only [isNL, decide_eq_false_iff_not]; omega
    have t1 : ((c : Int) == 10) = false := beq_eq_false_iff_ne.2 (by omega)
    have t2 : ((c : Int) == 13) = false := beq_eq_false_iff_ne.2 (by omega)
    have t3 : ((c : Int) == 12) = false := beq_eq_false_iff_ne.2 (by omega)
    have HR := Lib.hid R
    clear h R
    go_enter Tryd.func34, Tryd.ntmps34
    go_wp2
    go_ret
    exact ⟨ret_bool HR.out.symm, rfl⟩
theorem wsb3_any (c : Nat) (w : World) : Calls Tryd.prog 27 #[.int .u8 c] w fun e w' => e = .returned (.bool (isWS (c : Int))) ∧ w = w' := by
  have hn := nlb3_any c w
  by_cases h : c = 32 ∨ c = 9
  · clear hn
    rcases h with rfl | rfl <;> (go_enter Tryd.func27, Tryd.ntmps27; go_wp2; go_ret; exact ⟨rfl, rfl⟩)
  · have R : isWS (c : Int) = isNL (c : Int) := by unfold isWS isNL; rw [Bool.eq_iff_iff]; simp only [decide_eq_true_eq]; omega
    have t1 : ((c : Int) == 32) = false := beq_eq_false_iff_ne.2 (by omega)
    have t2 : ((c : Int) == 9) = false := beq_eq_false_iff_ne.2 (by omega)
    rw [R]
    clear h R
    cases hs : isNL (c : Int)
    all_goals
      rw [hs] at hn
      have HN := Lib.hid hn
      clear hs
      go_enter Tryd.func27, Tryd.ntmps27
      go_wp2_with (go_at_call 34; refine HN.out.mono ?_; rintro e w1 ⟨rfl, rfl⟩)
      go_ret
      exact ⟨rfl, rfl⟩
end Go.Proofs.YtpgfepilblhpdaaDoor
