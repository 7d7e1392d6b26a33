/-
  The law's small functions: lower case, closing style tag, hexadecimal escapes, the quote, equal bytes. No statement of the seat is proved here.
-/
import Derived.Test.YtemohaonhcmpkaaFmtQm
import Derived.Test.YtemohaonhcmpkaaFmtBq
import Derived.Test.YtemohaonhcmpkaaFmtEg
import Derived.BigQuiet
import Derived.Deep.QuietTactic
import Derived.RegionTactic
import Derived.BigRegion
namespace Go.Proofs.YtemohaonhcmpkaaFmt
open Go.RowKit
set_option linter.unusedVariables false
set_option linter.unusedSimpArgs false

theorem gb_drewN0 (w : World) (d : Nat) : w.grownBy (w.drewN d) none := ⟨rfl, rfl, rfl, Nat.le_refl _, fun _ _ _ => rfl⟩
set_option maxRecDepth 100000 in
theorem lw_any (b : Nat) (hb : b < 256) (w : World) : Calls Tryf.prog 13 #[.int .u8 (b : Int)] w fun e w' => e = .returned (.int .u8 (low b : Int)) ∧ w' = w := by
  unfold low
  rcases (show b < 65 ∨ (65 ≤ b ∧ b ≤ 90) ∨ 90 < b by omega) with h | h | h
  · rw [if_neg (by omega)]
    clear hb
    go_enter Tryf.func13, Tryf.ntmps13
    go_wp2
    go_ret
    exact ⟨rfl, rfl⟩
  · rw [if_pos h]
    have hw : IntKind.u8.wrap ((b : Int) + 32) = ((b + 32 : Nat) : Int) := by rw [IntKind.wrap_u8]; omega
    clear hb
    go_enter Tryf.func13, Tryf.ntmps13
    go_wp2
    go_ret
    exact ⟨rfl, rfl⟩
  · rw [if_neg (by omega)]
    clear hb
    go_enter Tryf.func13, Tryf.ntmps13
    go_wp2
    go_ret
    exact ⟨rfl, rfl⟩
/-- do the bytes that a hexadecimal escape stands for come up? -/
def RhE (t : ByteArray) (e : Ending) : Prop := ∃ r : Bool, e = .returned (.bool r) ∧ (r = false → NHx t)
def NHat (t : ByteArray) (i : Nat) : Prop := byteAt t i ≠ 0 ∧ byteAt t i ≠ 13 ∧ byteAt t i ≠ 10 ∧ byteAt t i ≠ 12 ∧ ¬ (byteAt t i = 239 ∧ i + 2 < t.size ∧ byteAt t (i + 1) = 187 ∧ byteAt t (i + 2) = 191)
set_option maxHeartbeats 4000000 in
set_option maxRecDepth 100000 in
theorem rh_any (t : ByteArray) (ht : t.size ≤ 1048576) (w : World) : Calls Tryf.prog 5 #[.string t] w fun e w' => RhE t e ∧ w' = w := by
  obtain ⟨n, hn⟩ : ∃ n, t.size = n := ⟨_, rfl⟩
  rw [hn] at ht
  have HN := Lib.hid hn
  go_enter Tryf.func5, Tryf.ntmps5
  go_wp2_with fail
  go_loopg [3] n (fun g x wx => wx = w ∧ ∃ i : Nat, x = .int .i64 (i : Int) ∧ i ≤ n ∧ n - i ≤ g ∧ Hid (∀ j, j < i → NHat t j))
  case atStart => exact ⟨rfl, 0, rfl, by omega, by omega, Lib.hid (fun j hj => by omega)⟩
  case round =>
    obtain ⟨hw, i, rfl, hi, hg, HI⟩ := hrel
    obtain rfl := hw.symm
    rcases (show n = i ∨ i < n by omega) with he | hlt
    · obtain rfl := he
      go_wp2_with fail
      go_ret
      exact ⟨⟨false, rfl, fun _ j hj => HI.out j (by rw [HN.out] at hj; exact hj)⟩, rfl⟩
    · have his : i < t.size := by omega
      have hx := byteAt_get t i his
      obtain ⟨b, hb⟩ : ∃ b, byteAt t i = b := ⟨_, rfl⟩
      rw [hb] at hx
      have HB := Lib.hid hb
      clear hb
      by_cases hbad : b = 0 ∨ b = 13 ∨ b = 10 ∨ b = 12
      · rcases hbad with rfl | rfl | rfl | rfl
        all_goals
          go_wp2_with fail
          go_ret
          exact ⟨⟨true, rfl, by simp⟩, rfl⟩
      · have g1 : ((b : Int) == 0) = false := by simp; omega
        have g2 : ((b : Int) == 13) = false := by simp; omega
        have g3 : ((b : Int) == 10) = false := by simp; omega
        have g4 : ((b : Int) == 12) = false := by simp; omega
        have HBD := Lib.hid hbad
        clear hbad
        have HST : Hid (¬ (b = 239 ∧ i + 2 < n ∧ byteAt t (i + 1) = 187 ∧ byteAt t (i + 2) = 191) → ∀ j, j < i + 1 → NHat t j) := Lib.hid (fun h j hj => by
          rcases (show j < i ∨ j = i by omega) with h0 | rfl
          · exact HI.out j h0
          · have h1 := HBD.out
            have h2 := HB.out
            rw [← HN.out] at h
            exact ⟨by omega, by omega, by omega, by omega, by rw [h2]; exact h⟩)
        by_cases h239 : b = 239
        · subst h239
          by_cases h2n : i + 2 < n
          · obtain ⟨k1, hk1⟩ : ∃ k1 : Nat, (i : Int) + 1 = (k1 : Int) := ⟨i + 1, by omega⟩
            obtain ⟨k2, hk2⟩ : ∃ k2 : Nat, (i : Int) + 2 = (k2 : Int) := ⟨i + 2, by omega⟩
            have hk1s : k1 < t.size := by omega
            have hk2s : k2 < t.size := by omega
            have hx1 := byteAt_get t k1 hk1s
            have hx2 := byteAt_get t k2 hk2s
            obtain ⟨b1, hb1⟩ : ∃ b1, byteAt t k1 = b1 := ⟨_, rfl⟩
            obtain ⟨b2, hb2⟩ : ∃ b2, byteAt t k2 = b2 := ⟨_, rfl⟩
            rw [hb1] at hx1
            rw [hb2] at hx2
            have d1 : decide ((k2 : Int) < (n : Int)) = true := by simp; omega
            have d2 : decide (k2 < n) = true := by simp; omega
            have HK : Hid (byteAt t (i + 1) = b1 ∧ byteAt t (i + 2) = b2) := Lib.hid ⟨by rw [← hb1]; congr 1; omega, by rw [← hb2]; congr 1; omega⟩
            clear hb1 hb2
            by_cases hb1 : b1 = 187
            · subst hb1
              by_cases hb2 : b2 = 191
              · subst hb2
                go_wp2_with fail
                go_ret
                exact ⟨⟨true, rfl, by simp⟩, rfl⟩
              · have e2 : ((b2 : Int) == 191) = false := by simp; omega
                have HNX := Lib.hid (HST.out (fun h => hb2 (by rw [← HK.out.2]; exact h.2.2.2)))
                clear hb2
                go_wp2_with fail
                go_roundg (gk - 1)
                case measure => omega
                case rel => exact ⟨rfl, i + 1, by go_num, by omega, by omega, HNX⟩
            · have e1 : ((b1 : Int) == 187) = false := by simp; omega
              have HNX := Lib.hid (HST.out (fun h => hb1 (by rw [← HK.out.1]; exact h.2.2.1)))
              clear hb1
              go_wp2_with fail
              go_roundg (gk - 1)
              case measure => omega
              case rel => exact ⟨rfl, i + 1, by go_num, by omega, by omega, HNX⟩
          · have d1 : decide ((i : Int) + 2 < (n : Int)) = false := by simp; omega
            have d2 : decide (i + 2 < n) = false := by simp; omega
            have HNX := Lib.hid (HST.out (fun h => h2n h.2.1))
            clear h2n
            go_wp2_with fail
            go_roundg (gk - 1)
            case measure => omega
            case rel => exact ⟨rfl, i + 1, by go_num, by omega, by omega, HNX⟩
        · have g5 : ((b : Int) == 239) = false := by simp; omega
          have HNX := Lib.hid (HST.out (fun h => h239 h.1))
          clear h239
          go_wp2_with fail
          go_roundg (gk - 1)
          case measure => omega
          case rel => exact ⟨rfl, i + 1, by go_num, by omega, by omega, HNX⟩
end Go.Proofs.YtemohaonhcmpkaaFmt
