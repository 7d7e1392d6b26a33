/-
  The law's own small functions. No statement of the seat is proved here.
-/
import Derived.Test.YtfacjljamebalaaFmtNz
namespace Go.Proofs.YtfacjljamebalaaFmt
open Go.RowKit
set_option linter.unusedVariables false
set_option linter.unusedSimpArgs false
theorem lo_any (c : Int) (w : World) : Calls Tryf.prog 14 #[.int .u8 c] w fun e w' => e = .returned (.bool (lo c)) ∧ w = w' := by
  rcases (show c < 65 ∨ (65 ≤ c ∧ c ≤ 90) ∨ (90 < c ∧ c < 95) ∨ c = 95 ∨ (95 < c ∧ c < 97) ∨ (97 ≤ c ∧ c ≤ 122) ∨ 122 < c by omega) with h | ⟨h, h'⟩ | ⟨h, h'⟩ | rfl | ⟨h, h'⟩ | ⟨h, h'⟩ | h
  case inr.inr.inr.inl => go_enter Tryf.func14, Tryf.ntmps14; go_wp2; go_ret; exact ⟨rfl, rfl⟩
  all_goals
    have t1 : (c == 95) = false := beq_eq_false_iff_ne.2 (by omega)
    first
      | (have R : lo c = true := by simp only [lo, decide_eq_true_eq]; omega
         have HR := Lib.hid R; clear R
         go_enter Tryf.func14, Tryf.ntmps14; go_wp2; go_ret; exact ⟨ret_bool HR.out.symm, rfl⟩)
      | (have R : lo c = false := by simp only [lo, decide_eq_false_iff_not]; omega
         have HR := Lib.hid R; clear R
         go_enter Tryf.func14, Tryf.ntmps14; go_wp2; go_ret; exact ⟨ret_bool (by rw [HR.out]; try (simp; omega)), rfl⟩)
def nb (c : Int) : Bool := lo c || decide ((48 ≤ c ∧ c ≤ 57) ∨ c = 45)
theorem nb_any (c : Int) (w : World) : Calls Tryf.prog 13 #[.int .u8 c] w fun e w' => e = .returned (.bool (nb c)) ∧ w = w' := by
  have hn := lo_any c w
  cases hs : lo c
  · have HS := Lib.hid hs
    rw [hs] at hn
    have HN := Lib.hid hn
    clear hs hn
    rcases (show c < 45 ∨ c = 45 ∨ (45 < c ∧ c < 48) ∨ (48 ≤ c ∧ c ≤ 57) ∨ 57 < c by omega) with h | rfl | ⟨h1, h2⟩ | ⟨h1, h2⟩ | h
    case inr.inl => go_enter Tryf.func13, Tryf.ntmps13; go_wp2_with (go_at_call 14; refine HN.out.mono ?_; rintro e w1 ⟨rfl, rfl⟩); go_ret; exact ⟨rfl, rfl⟩
    all_goals
      have t1 : (c == 45) = false := beq_eq_false_iff_ne.2 (by omega)
      first
        | (have R : nb c = true := by simp only [nb, HS.out, Bool.false_or, decide_eq_true_eq]; omega
           have HR := Lib.hid R; clear R
           go_enter Tryf.func13, Tryf.ntmps13; go_wp2_with (go_at_call 14; refine HN.out.mono ?_; rintro e w1 ⟨rfl, rfl⟩); go_ret; exact ⟨ret_bool HR.out.symm, rfl⟩)
        | (have R : nb c = false := by simp only [nb, HS.out, Bool.false_or, decide_eq_false_iff_not]; omega
           have HR := Lib.hid R; clear R
           go_enter Tryf.func13, Tryf.ntmps13; go_wp2_with (go_at_call 14; refine HN.out.mono ?_; rintro e w1 ⟨rfl, rfl⟩); go_ret; exact ⟨ret_bool (by rw [HR.out]; try (simp; omega)), rfl⟩)
  · have R : nb c = true := by simp only [nb, hs, Bool.true_or]
    have HR := Lib.hid R
    rw [hs] at hn
    have HN := Lib.hid hn
    clear hs hn R
    go_enter Tryf.func13, Tryf.ntmps13
    go_wp2_with (go_at_call 14; refine HN.out.mono ?_; rintro e w1 ⟨rfl, rfl⟩)
    go_ret
    exact ⟨ret_bool HR.out.symm, rfl⟩
theorem nb_nc (c : Int) (h : 32 ≤ c) (h' : c ≤ 126) : nb c = nameCont c := by
  unfold nb nameCont nameStart lo
  rw [Bool.eq_iff_iff]
  simp only [Bool.or_eq_true, decide_eq_true_eq]
  omega
theorem pn_any (t : ByteArray) (w : World) (ht : t.size ≤ 1048576) : Calls Tryf.prog 5 #[.string t] w fun e w' => (∃ b, e = .returned (.bool b) ∧ (b = true → Nm t)) ∧ w = w' := by
  by_cases h0 : t.size = 0
  · have e : t = ⟨#[]⟩ := by apply ByteArray.ext; exact Array.eq_empty_of_size_eq_zero h0
    subst e
    go_enter Tryf.func5, Tryf.ntmps5
    go_wp2
    go_ret
    exact ⟨⟨false, rfl, fun h => by cases h⟩, rfl⟩
  have hz : 0 < t.size := by omega
  have hz0 : ((t.size : Int) == 0) = false := beq_eq_false_iff_ne.2 (by omega)
  have hb := byteAt_get t 0 hz
  have hl := lo_any (byteAt t 0) w
  cases hlo : lo (byteAt t 0)
  · rw [hlo] at hl
    have HL := Lib.hid hl
    rw [← hb] at HL
    clear hl hb hlo
    go_enter Tryf.func5, Tryf.ntmps5
    go_wp2_with (go_at_call 14; refine HL.out.mono ?_; rintro e w1 ⟨rfl, rfl⟩)
    go_ret
    exact ⟨⟨false, rfl, fun h => by cases h⟩, rfl⟩
  rw [hlo] at hl
  have HL := Lib.hid hl
  rw [← hb] at HL
  have HF := Lib.hid hlo
  clear hl hb hlo
  go_enter Tryf.func5, Tryf.ntmps5
  go_wp2_with (go_at_call 14; refine HL.out.mono ?_; rintro e w1 ⟨rfl, rfl⟩)
  go_loopg [3] t.size (fun k a wr => ∃ i : Nat, a = .int .i64 (i : Int) ∧ i ≤ t.size ∧ t.size - i ≤ k ∧ Hid (∀ j, j < i → 32 ≤ byteAt t j ∧ byteAt t j ≤ 126) ∧ wr = w)
  case atStart => exact ⟨0, rfl, by omega, by omega, Lib.hid (fun j h => by omega), rfl⟩
  case round =>
    obtain ⟨i, rfl, hi, hk, HN, rfl⟩ := hrel
    rcases (show t.size = i ∨ i < t.size by omega) with he | hlt
    · have HA : Hid (Nm t) := Lib.hid ⟨hz, HF.out, by rw [he]; exact HN.out⟩
      have d0 : decide ((i : Int) < (t.size : Int)) = false := by simp; omega
      have d00 : decide (i < t.size) = false := by simp; omega
      clear he HN
      go_wp2_with fail
      go_ret
      exact ⟨⟨true, rfl, fun _ => HA.out⟩, rfl⟩
    · have e1 := byteAt_get t i hlt
      obtain ⟨c, hc⟩ : ∃ c, byteAt t i = c := ⟨_, rfl⟩
      rw [hc] at e1
      have HC := Lib.hid hc
      clear hc
      rcases (show c < 32 ∨ 126 < c ∨ (32 ≤ c ∧ c ≤ 126) by omega) with h | h | ⟨h, h'⟩
      · have d1 : decide ((c : Int) < 32) = true := by simp; omega
        have d2 : decide (c < 32) = true := by simp; omega
        go_wp2_with fail
        go_ret
        exact ⟨⟨false, rfl, fun h => by cases h⟩, rfl⟩
      · have d1 : decide ((c : Int) < 32) = false := by simp; omega
        have d2 : decide (c < 32) = false := by simp; omega
        have d3 : decide ((126 : Int) < (c : Int)) = true := by simp; omega
        have d4 : decide (126 < c) = true := by simp; omega
        go_wp2_with fail
        go_ret
        exact ⟨⟨false, rfl, fun h => by cases h⟩, rfl⟩
      · have d1 : decide ((c : Int) < 32) = false := by simp; omega
        have d2 : decide (c < 32) = false := by simp; omega
        have d3 : decide ((126 : Int) < (c : Int)) = false := by simp; omega
        have d4 : decide (126 < c) = false := by simp; omega
        go_wp2_with fail
        go_roundg (t.size - (i + 1))
        case measure => omega
        case rel => exact ⟨i + 1, by first | rfl | go_num, by omega, Nat.le_refl _, Lib.hid (fun j hj => (show j < i ∨ j = i by omega).elim (fun h => HN.out j h) (fun e => by rw [e, HC.out]; exact ⟨h, h'⟩)), rfl⟩
theorem k0_any (w : World) : Calls Tryf.prog 15 #[] w fun e w' => e = .returned (.int .u8 0) ∧ w = w' := by
  go_enter Tryf.func15, Tryf.ntmps15
  go_wp2
  go_ret
  exact ⟨rfl, rfl⟩
theorem k1_any (w : World) : Calls Tryf.prog 16 #[] w fun e w' => e = .returned (.int .u8 1) ∧ w = w' := by
  go_enter Tryf.func16, Tryf.ntmps16
  go_wp2
  go_ret
  exact ⟨rfl, rfl⟩
theorem b3ws_any (m : Bool) (w : World) : Calls Tryf.prog 6 #[.bool m] w fun e w' => (∃ z : Int, e = .returned (.int .u8 z)) ∧ w = w' := by
  cases m
  all_goals
    go_enter Tryf.func6, Tryf.ntmps6
    go_wp2_with (first | (go_at_call 15; refine (k0_any _).mono ?_; rintro e w1 ⟨rfl, rfl⟩) | (go_at_call 16; refine (k1_any _).mono ?_; rintro e w1 ⟨rfl, rfl⟩))
    go_ret
    exact ⟨⟨_, rfl⟩, rfl⟩
theorem ka_any (w : World) : Calls Tryf.prog 9 #[] w fun e w' => e = .returned (.int .i64 13) ∧ w = w' := by
  go_enter Tryf.func9, Tryf.ntmps9
  go_wp2
  go_ret
  exact ⟨rfl, rfl⟩
theorem ki_any (w : World) : Calls Tryf.prog 10 #[] w fun e w' => e = .returned (.int .i64 29) ∧ w = w' := by
  go_enter Tryf.func10, Tryf.ntmps10
  go_wp2
  go_ret
  exact ⟨rfl, rfl⟩
theorem zb_any (t : ByteArray) (b1 b2 b3 b4 : Bool) (w : World) (ht : t.size ≤ maxLen) : Calls Tryf.prog 4 #[.string t, .bool b1, .bool b2, .bool b3, .bool b4] w fun e w' => (∃ b, e = .returned (.bool b) ∧ (b = true → t.size ≤ 1048576)) ∧ w = w' := by
  unfold maxLen at ht
  by_cases h : t.size ≤ 1048576
  · go_enter Tryf.func4, Tryf.ntmps4
    go_wp2
    go_ret
    exact ⟨⟨true, rfl, fun _ => h⟩, rfl⟩
  · go_enter Tryf.func4, Tryf.ntmps4
    go_wp2
    go_ret
    exact ⟨⟨false, rfl, fun h => by cases h⟩, rfl⟩
end Go.Proofs.YtfacjljamebalaaFmt
