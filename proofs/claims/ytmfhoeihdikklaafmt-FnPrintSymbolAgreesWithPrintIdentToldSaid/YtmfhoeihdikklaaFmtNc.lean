/-
  The css lexer's tests of name code points. No statement of the seat is proved here.
-/
import Derived.Test.YtmfhoeihdikklaaFmtBase
import Derived.Test.YtmfhoeihdikklaaFmtShelf
import Derived.IntWalk
namespace Go.Proofs.YtmfhoeihdikklaaFmt
open Go.RowKit
set_option linter.unusedVariables false
def nameStart (c : Int) : Bool := decide ((97 ≤ c ∧ c ≤ 122) ∨ (65 ≤ c ∧ c ≤ 90) ∨ c = 95 ∨ 128 ≤ c ∨ c = 0)
def nameCont (c : Int) : Bool := nameStart c || decide ((48 ≤ c ∧ c ≤ 57) ∨ c = 45)
theorem ns_any (c : Int) (w : World) : Calls Tryf.prog 33 #[.int .i32 c] w fun e w' => e = .returned (.bool (nameStart c)) ∧ w = w' := by
  rcases (show c < 0 ∨ c = 0 ∨ (0 < c ∧ c < 65) ∨ (65 ≤ c ∧ c ≤ 90) ∨ (90 < c ∧ c < 95) ∨ c = 95 ∨ (95 < c ∧ c < 97) ∨ (97 ≤ c ∧ c ≤ 122) ∨ (122 < c ∧ c < 128) ∨ 128 ≤ c by omega) with h | rfl | ⟨h1, h2⟩ | ⟨h1, h2⟩ | ⟨h1, h2⟩ | rfl | ⟨h1, h2⟩ | ⟨h1, h2⟩ | ⟨h1, h2⟩ | h
  case inr.inl => go_enter Tryf.func33, Tryf.ntmps33; go_wp2; go_ret; exact ⟨rfl, rfl⟩
  case inr.inr.inr.inr.inr.inl => go_enter Tryf.func33, Tryf.ntmps33; go_wp2; go_ret; exact ⟨rfl, rfl⟩
  all_goals
    have t1 : (c == 95) = false := beq_eq_false_iff_ne.2 (by omega)
    have t2 : (c == 0) = false := beq_eq_false_iff_ne.2 (by omega)
    first
      | (have R : nameStart c = true := by simp only [nameStart, decide_eq_true_eq]; omega
         have HR := Lib.hid R; clear R
         go_enter Tryf.func33, Tryf.ntmps33; go_wp2; go_ret; exact ⟨ret_bool HR.out.symm, rfl⟩)
      | (have R : nameStart c = false := by simp only [nameStart, decide_eq_false_iff_not]; omega
         have HR := Lib.hid R; clear R
         go_enter Tryf.func33, Tryf.ntmps33; go_wp2; go_ret; exact ⟨ret_bool (by rw [HR.out] <;> first | rfl | (simp only [decide_eq_false_iff_not]; omega) | (simp only [Bool.or_eq_false_iff, decide_eq_false_iff_not]; omega)), rfl⟩)
theorem nc_any (c : Int) (w : World) : Calls Tryf.prog 26 #[.int .i32 c] w fun e w' => e = .returned (.bool (nameCont c)) ∧ w = w' := by
  have hn := ns_any c w
  cases hs : nameStart c
  · have HS := Lib.hid hs
    rw [hs] at hn
    have HN := Lib.hid hn
    clear hs hn
    rcases (show c < 45 ∨ c = 45 ∨ (45 < c ∧ c < 48) ∨ (48 ≤ c ∧ c ≤ 57) ∨ 57 < c by omega) with h | rfl | ⟨h1, h2⟩ | ⟨h1, h2⟩ | h
    case inr.inl => go_enter Tryf.func26, Tryf.ntmps26; go_wp2_with (go_at_call 33; refine HN.out.mono ?_; rintro e w1 ⟨rfl, rfl⟩); go_ret; exact ⟨rfl, rfl⟩
    all_goals
      have t1 : (c == 45) = false := beq_eq_false_iff_ne.2 (by omega)
      first
        | (have R : nameCont c = true := by simp only [nameCont, HS.out, Bool.false_or, decide_eq_true_eq]; omega
           have HR := Lib.hid R; clear R
           go_enter Tryf.func26, Tryf.ntmps26; go_wp2_with (go_at_call 33; refine HN.out.mono ?_; rintro e w1 ⟨rfl, rfl⟩); go_ret; exact ⟨ret_bool HR.out.symm, rfl⟩)
        | (have R : nameCont c = false := by simp only [nameCont, HS.out, Bool.false_or, decide_eq_false_iff_not]; omega
           have HR := Lib.hid R; clear R
           go_enter Tryf.func26, Tryf.ntmps26; go_wp2_with (go_at_call 33; refine HN.out.mono ?_; rintro e w1 ⟨rfl, rfl⟩); go_ret; exact ⟨ret_bool (by rw [HR.out] <;> first | rfl | (simp only [decide_eq_false_iff_not]; omega)), rfl⟩)
  · have R : nameCont c = true := by simp only [nameCont, hs, Bool.true_or]
    have HR := Lib.hid R
    rw [hs] at hn
    have HN := Lib.hid hn
    clear hs hn R
    go_enter Tryf.func26, Tryf.ntmps26
    go_wp2_with (go_at_call 33; refine HN.out.mono ?_; rintro e w1 ⟨rfl, rfl⟩)
    go_ret
    exact ⟨ret_bool HR.out.symm, rfl⟩
end Go.Proofs.YtmfhoeihdikklaaFmt
