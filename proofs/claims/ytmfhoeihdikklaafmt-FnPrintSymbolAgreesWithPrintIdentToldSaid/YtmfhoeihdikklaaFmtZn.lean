/-
  The law's check of the name, the comparison of the outputs. No statement of the seat is proved here.
-/
import Derived.Test.YtmfhoeihdikklaaFmtZc
import Derived.Test.YtmfhoeihdikklaaFmtPn
import Derived.BigQuiet
import Derived.Deep.QuietTactic
namespace Go.Proofs.YtmfhoeihdikklaaFmt
open Go.RowKit
set_option linter.unusedVariables false
set_option linter.unusedSimpArgs false

theorem dig_any (b : Nat) (w : World) : Calls Tryf.prog 18 #[.int .u8 (b : Int)] w fun e w' => e = .returned (.bool (decide (48 ≤ b ∧ b ≤ 57))) ∧ w' = w := by
  by_cases h1 : 48 ≤ b
  · by_cases h2 : b ≤ 57
    · have e : decide (48 ≤ b ∧ b ≤ 57) = true := by simp [h1, h2]
      rw [e]
      clear e
      go_enter Tryf.func18, Tryf.ntmps18
      go_wp2
      go_ret
      exact ⟨ret_bool (by simp; omega), rfl⟩
    · have e : decide (48 ≤ b ∧ b ≤ 57) = false := by simp [h2]
      rw [e]
      clear e
      go_enter Tryf.func18, Tryf.ntmps18
      go_wp2
      go_ret
      exact ⟨ret_bool (by simp; omega), rfl⟩
  · have e : decide (48 ≤ b ∧ b ≤ 57) = false := by simp [h1]
    rw [e]
    clear e
    go_enter Tryf.func18, Tryf.ntmps18
    go_wp2
    go_ret
    exact ⟨rfl, rfl⟩
def Bom (t : ByteArray) (i : Nat) : Prop := byteAt t i = 239 ∧ byteAt t (i + 1) = 187 ∧ byteAt t (i + 2) = 191
set_option maxRecDepth 100000 in
theorem bom_any (t : ByteArray) (ht : t.size ≤ 1048576) (w : World) : Calls Tryf.prog 19 #[.string t] w fun e w' => (∃ b, e = .returned (.bool b) ∧ (b = false → ∀ i, i + 2 < t.size → ¬ Bom t i)) ∧ w' = w := by
  go_enter Tryf.func19, Tryf.ntmps19
  go_wp2_with fail
  go_loopg [3] t.size (fun k a wr => ∃ i : Nat, a = .int .i64 (i : Int) ∧ i ≤ t.size ∧ t.size - i ≤ k ∧ w = wr ∧ Hid (∀ j, j < i → ¬ Bom t j))
  case atStart => exact ⟨0, rfl, by omega, by omega, rfl, Lib.hid (fun j hj => by omega)⟩
  case round =>
    obtain ⟨i, rfl, hi, hk, rfl, HO⟩ := hrel
    rcases (show ¬ i + 2 < t.size ∨ i + 2 < t.size by omega) with he | hlt
    · go_wp2_with fail
      go_ret
      exact ⟨⟨false, rfl, fun _ j hj => HO.out j (by omega)⟩, rfl⟩
    · have h0 : i < t.size := by omega
      have h1 : i + 1 < t.size := by omega
      have e0 := byteAt_get t i h0
      have e1 := byteAt_get t (i + 1) h1
      have e2 := byteAt_get t (i + 2) hlt
      obtain ⟨b0, hb0⟩ : ∃ b, byteAt t i = b := ⟨_, rfl⟩
      obtain ⟨b1, hb1⟩ : ∃ b, byteAt t (i + 1) = b := ⟨_, rfl⟩
      obtain ⟨b2, hb2⟩ : ∃ b, byteAt t (i + 2) = b := ⟨_, rfl⟩
      rw [hb0] at e0
      rw [hb1] at e1
      rw [hb2] at e2
      have HE := Lib.hid (And.intro hb0 (And.intro hb1 hb2))
      clear hb0 hb1 hb2
      by_cases c0 : b0 = 239
      · by_cases c1 : b1 = 187
        · by_cases c2 : b2 = 191
          · subst c0 c1 c2
            go_wp2_with fail
            go_ret
            exact ⟨⟨true, rfl, fun h => by cases h⟩, rfl⟩
          · have d2 : decide ((b2 : Int) = 191) = false := by simp; omega
            have HC := Lib.hid c2
            subst c0 c1
            go_wp2_with fail
            go_roundg (gk - 1)
            case measure => omega
            case rel => exact ⟨i + 1, by go_num, by omega, by omega, rfl, Lib.hid (fun j hj => by
              by_cases e : j = i
              · subst e; exact fun hb => HC.out (HE.out.2.2.symm.trans hb.2.2)
              · exact HO.out j (by omega))⟩
        · have d1 : decide ((b1 : Int) = 187) = false := by simp; omega
          have HC := Lib.hid c1
          subst c0
          go_wp2_with fail
          go_roundg (gk - 1)
          case measure => omega
          case rel => exact ⟨i + 1, by go_num, by omega, by omega, rfl, Lib.hid (fun j hj => by
            by_cases e : j = i
            · subst e; exact fun hb => HC.out (HE.out.2.1.symm.trans hb.2.1)
            · exact HO.out j (by omega))⟩
      · have d0 : decide ((b0 : Int) = 239) = false := by simp; omega
        have HC := Lib.hid c0
        go_wp2_with fail
        go_roundg (gk - 1)
        case measure => omega
        case rel => exact ⟨i + 1, by go_num, by omega, by omega, rfl, Lib.hid (fun j hj => by
          by_cases e : j = i
          · subst e; exact fun hb => HC.out (HE.out.1.symm.trans hb.1)
          · exact HO.out j (by omega))⟩
def NoBad (t : ByteArray) (a : Bool) (i : Nat) : Prop := byteAt t i ≠ 10 ∧ byteAt t i ≠ 12 ∧ byteAt t i ≠ 13 ∧ (a = true → byteAt t i < 128)
set_option maxRecDepth 100000 in
theorem nohex_any (t : ByteArray) (a : Bool) (ht : t.size ≤ 1048576) (w : World) : Calls Tryf.prog 11 #[.string t, .bool a] w fun e w' => (∃ b, e = .returned (.bool b) ∧ (b = true → NH t a)) ∧ w' = w := by
  have HBM := Lib.hid (bom_any t ht w)
  have hdig : t.size = 0 ∨ (∃ h : 0 < t.size, ∃ b0, (t[0]'h).toNat = b0 ∧ byteAt t 0 = b0) := by
    by_cases h : 0 < t.size
    · exact .inr ⟨h, _, byteAt_get t 0 h, rfl⟩
    · exact .inl (by omega)
  have main : ∀ (HD : Hid (0 < t.size → ¬ (48 ≤ byteAt t 0 ∧ byteAt t 0 ≤ 57))), True := fun _ => trivial
  clear main
  rcases hdig with h0 | ⟨h0, b0, e0, hb0⟩
  · have HD : Hid (0 < t.size → ¬ (48 ≤ byteAt t 0 ∧ byteAt t 0 ≤ 57)) := Lib.hid (fun h => by omega)
    go_enter Tryf.func11, Tryf.ntmps11
    go_wp2_with fail
    go_loopg [5, 6] t.size (fun k x _ wr => ∃ i : Nat, x = .int .i64 (i : Int) ∧ i ≤ t.size ∧ t.size - i ≤ k ∧ w = wr ∧ Hid (∀ j, j < i → NoBad t a j))
    case atStart => exact ⟨0, rfl, by omega, by omega, rfl, Lib.hid (fun j hj => by omega)⟩
    case round =>
      obtain ⟨i, rfl, hi, hk, rfl, HO⟩ := hrel
      have he : t.size = i := by omega
      go_wp2_with (go_at_call 19; refine HBM.out.mono ?_; rintro e w2 ⟨⟨b, rfl, hb⟩, rfl⟩; have HB := Lib.hid hb; clear hb)
      go_ret
      exact ⟨⟨!b, rfl, fun h => ⟨fun j hj => HO.out j (by omega), HB.out (by simpa using h), HD.out⟩⟩, rfl⟩
  · by_cases hd : 48 ≤ b0 ∧ b0 ≤ 57
    · have HDG := Lib.hid (dig_any b0 w)
      rw [show decide (48 ≤ b0 ∧ b0 ≤ 57) = true by simp [hd]] at HDG
      clear hd hb0
      go_enter Tryf.func11, Tryf.ntmps11
      go_wp2_with (go_at_call 18; refine HDG.out.mono ?_; rintro e w2 ⟨rfl, rfl⟩)
      go_ret
      exact ⟨⟨false, rfl, fun h => by cases h⟩, rfl⟩
    · have HDG := Lib.hid (dig_any b0 w)
      rw [show decide (48 ≤ b0 ∧ b0 ≤ 57) = false by simp; omega] at HDG
      have HD : Hid (0 < t.size → ¬ (48 ≤ byteAt t 0 ∧ byteAt t 0 ≤ 57)) := Lib.hid (fun h => by rw [hb0]; exact hd)
      clear hd hb0
      go_enter Tryf.func11, Tryf.ntmps11
      go_upto_region 3 with (go_at_call 18; refine HDG.out.mono ?_; rintro e w2 ⟨rfl, rfl⟩)
      clear e0
      go_wp2_with fail
      go_loopg [5, 6] t.size (fun k x _ wr => ∃ i : Nat, x = .int .i64 (i : Int) ∧ i ≤ t.size ∧ t.size - i ≤ k ∧ w2 = wr ∧ Hid (∀ j, j < i → NoBad t a j))
      case atStart => exact ⟨0, rfl, by omega, by omega, rfl, Lib.hid (fun j hj => by omega)⟩
      case round =>
        obtain ⟨i, rfl, hi, hk, rfl, HO⟩ := hrel
        rcases (show t.size = i ∨ i < t.size by omega) with he | hlt
        · go_wp2_with (go_at_call 19; refine HBM.out.mono ?_; rintro e w3 ⟨⟨b, rfl, hb⟩, rfl⟩; have HB := Lib.hid hb; clear hb)
          go_ret
          exact ⟨⟨!b, rfl, fun h => ⟨fun j hj => HO.out j (by omega), HB.out (by simpa using h), HD.out⟩⟩, rfl⟩
        · have e1 := byteAt_get t i hlt
          obtain ⟨c, hc⟩ : ∃ c, byteAt t i = c := ⟨_, rfl⟩
          rw [hc] at e1
          have HC := Lib.hid hc
          clear hc
          by_cases hbad : c = 10 ∨ c = 12 ∨ c = 13
          · rcases hbad with rfl | rfl | rfl
            all_goals
              go_wp2_with fail
              go_ret
              exact ⟨⟨false, rfl, fun h => by cases h⟩, rfl⟩
          · have d1 : decide ((c : Int) = 10) = false := by simp; omega
            have d2 : decide ((c : Int) = 12) = false := by simp; omega
            have d3 : decide ((c : Int) = 13) = false := by simp; omega
            have d1' : ((c : Int) == 10) = false := by simp; omega
            have d2' : ((c : Int) == 12) = false := by simp; omega
            have d3' : ((c : Int) == 13) = false := by simp; omega
            have HNB := Lib.hid hbad
            clear hbad
            by_cases ha : a = true ∧ 128 ≤ c
            · obtain ⟨rfl, h128⟩ := ha
              go_wp2_with fail
              go_ret
              exact ⟨⟨false, rfl, fun h => by cases h⟩, rfl⟩
            · have fin : Hid (∀ j, j < i + 1 → NoBad t a j) := Lib.hid (fun j hj => by
                by_cases e : j = i
                · subst e
                  have h1 := HNB.out
                  have h2 := HC.out
                  refine ⟨by omega, by omega, by omega, fun h => ?_⟩
                  by_cases h3 : c < 128
                  · omega
                  · exact absurd ⟨h, by omega⟩ ha
                · exact HO.out j (by omega))
              cases a with
              | false =>
                clear ha
                go_wp2_with fail
                go_roundg (gk - 1)
                case measure => omega
                case rel => exact ⟨i + 1, by go_num, by omega, by omega, rfl, fin⟩
              | true =>
                have h128 : c < 128 := by
                  by_cases h3 : c < 128
                  · exact h3
                  · exact absurd ⟨rfl, by omega⟩ ha
                clear ha
                go_wp2_with fail
                go_roundg (gk - 1)
                case measure => omega
                case rel => exact ⟨i + 1, by go_num, by omega, by omega, rfl, fin⟩
set_option maxRecDepth 100000 in
theorem eq_any (a0 a1 : Option Addr) (n p0 p1 : Nat) (zs : List Int) (hn : zs.length = n) (hl : n ≤ 1073741824) (w : World) (h0 : In .u8 w a0 zs) (h1 : In .u8 w a1 zs) : Calls Tryf.prog 17 #[.slice a0 n p0, .slice a1 n p1] w fun e w' => e = .returned (.bool true) ∧ Below w.heap.size w w' := by
  go_enter Tryf.func17, Tryf.ntmps17
  go_wp2_with fail
  go_loopg [5] n (fun k a wr => ∃ i : Nat, a = .int .i64 (i : Int) ∧ i ≤ n ∧ n - i ≤ k ∧ Hid (w.grownBy wr none))
  case atStart => exact ⟨0, rfl, by omega, by omega, Lib.hid (gb_refl _ _)⟩
  case round =>
    obtain ⟨i, rfl, hi, hk, HG⟩ := hrel
    obtain ⟨wz, rfl⟩ : ∃ wz : World, wz = wr := ⟨_, rfl⟩
    have hb : Below w.heap.size w wz := (Below.refl _ _).grown HG.out (Nat.le_refl _) (fun k hk => by cases hk)
    rcases (show n = i ∨ i < n by omega) with he | hlt
    · have HB := Lib.hid hb
      clear hb
      go_wp2_with fail
      go_ret
      exact ⟨rfl, HB.out⟩
    · obtain ⟨x0, y0, rfl, _, c0⟩ := (h0.kept hb).at (i := i) (by omega)
      obtain ⟨x1, y1, rfl, _, c1⟩ := (h1.kept hb).at (i := i) (by omega)
      obtain ⟨z, hz⟩ : ∃ z, nth zs i = z := ⟨_, rfl⟩
      rw [hz] at c0 c1
      clear hb hz
      have hzz : decide (z = z) = true := by simp
      go_wp2_with fail
      go_quiet (fail)
      go_wp2_with fail
      go_roundg (gk - 1)
      case measure => omega
      case rel => exact ⟨i + 1, by go_num, by omega, by omega, Lib.hid (gb_trans HG.out ⟨rfl, rfl, rfl, Nat.le_refl _, fun _ _ _ => rfl⟩)⟩
end Go.Proofs.YtmfhoeihdikklaaFmt
