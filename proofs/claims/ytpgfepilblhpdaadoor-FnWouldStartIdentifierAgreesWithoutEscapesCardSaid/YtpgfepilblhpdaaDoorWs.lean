/-
  The functions that FnWouldStartIdentifierAgreesWithoutEscapes reaches: the law file's scans, the lexer laid at a position, the exported twin. No statement of the seat is proved here.
-/
import Derived.Test.YtpgfepilblhpdaaDoorVlP
import Derived.Deep.CutBlock
import Derived.Deep.DeepCutAuto
import Derived.Deep.LoopGhost
namespace Go.Proofs.YtpgfepilblhpdaaDoor
open Go.RowKit
set_option linter.unusedVariables false
/-! zzHasBackslash -/
def NoBs (s : ByteArray) (k : Nat) : Prop := ∀ j, j < k → byteAt s j ≠ 92
theorem hb_any (s : ByteArray) (w : World) (h : s.size ≤ 1048576) : Calls Tryd.prog 12 #[.string s] w fun e w' => (e = .returned (.bool true) ∨ (e = .returned (.bool false) ∧ NoBs s s.size)) ∧ w' = w := by
  go_enter Tryd.func12, Tryd.ntmps12
  go_wp2_with fail
  go_loopw [2, 3] (fun v a wr => v = .bool false ∧ ∃ k : Nat, k ≤ s.size ∧ a = .int .i64 k ∧ wr = w ∧ Hid (NoBs s k)) (fun _ a _ => s.size - (intOf a).toNat)
  case atStart => exact ⟨rfl, 0, Nat.zero_le _, rfl, rfl, Lib.hid (fun j hj => by omega)⟩
  case round =>
    obtain ⟨rfl, k, hk, rfl, rfl, HK⟩ := hrel
    rcases (show k = s.size ∨ k < s.size by omega) with rfl | hlt
    · go_wp2
      go_ret
      exact ⟨.inr ⟨rfl, HK.out⟩, rfl⟩
    · have eb := byteAt_get s k hlt
      obtain ⟨b, hb⟩ : ∃ b, byteAt s k = b := ⟨_, rfl⟩
      rw [hb] at eb
      by_cases h92 : b = 92
      · subst h92
        clear hb
        go_wp2
        go_ret
        exact ⟨.inl rfl, rfl⟩
      · have t1 : ((b : Int) == 92) = false := beq_eq_false_iff_ne.2 (by omega)
        have HK2 : Hid (NoBs s (k + 1)) := Lib.hid (fun j hj => by
          rcases (show j = k ∨ j < k by omega) with rfl | hl
          · rw [hb]; exact h92
          · exact HK.out j hl)
        clear hb HK h92
        go_wp2
        go_roundw
        case rel => exact ⟨by first | rfl | trivial, k + 1, by omega, by go_num, by first | rfl | trivial, HK2⟩
        case measure => simp [intOf]; omega
/-! zzValidRuneLen -/
def Vlen (s : ByteArray) (i : Nat) (w : World) (e : Ending) (w' : World) : Prop := ∃ v : Nat, e = .returned (.int .i64 v) ∧ v ≤ 4 ∧ i + v ≤ s.size ∧ VL s i v ∧ w' = w
set_option maxRecDepth 100000 in
set_option maxHeartbeats 8000000 in
theorem vl_lead (s : ByteArray) (i b : Nat) (w : World) (hi : i < s.size) (hz : s.size ≤ 1048576) (HB : Hid (byteAt s i = b)) (h194 : 194 ≤ b) (h244 : b ≤ 244) : Calls Tryd.prog 21 #[.string s, .int .i64 i] w (Vlen s i w) := by
  have eb := byteAt_get s i hi
  rw [HB.out] at eb
  have h128 : 128 ≤ b := by omega
  go_enter Tryd.func21, Tryd.ntmps21
  go_upto_region 10 with fail
  go_cut [31] (fun v wc => v = .bool (decide (194 ≤ b ∧ b ≤ 223)) ∧ wc = w)
  case first =>
    by_cases h1 : b ≤ 223
    · have HQ := Lib.hid (decide_eq_true (p := 194 ≤ b ∧ b ≤ 223) (by omega))
      go_wp2_with fail
      go_meet
      exact ⟨by rw [HQ.out]; first | rfl | (congr 1; simp; omega), rfl⟩
    · have g1 : 223 < b := by omega
      have HQ := Lib.hid (decide_eq_false (p := 194 ≤ b ∧ b ≤ 223) (by omega))
      clear h1
      go_wp2_with fail
      go_meet
      exact ⟨by rw [HQ.out]; first | rfl | (congr 1; simp; omega), rfl⟩
  case rest =>
    obtain ⟨rfl, hcw⟩ := hcut
    have hcw1 := hcw.symm
    subst hcw1
    go_upto_if 31 with fail
    go_cut [4, 7, 8, 9] (fun u x y z wc => u = .int .i64 0 ∧ ∃ nd lo hi : Nat, x = .int .i64 nd ∧ y = .int .u8 lo ∧ z = .int .u8 hi ∧ Hid (VC (byteAt s i) nd lo hi) ∧ wc = w)
    case first =>
      rcases (show b ≤ 223 ∨ b = 224 ∨ (225 ≤ b ∧ b ≤ 236) ∨ b = 237 ∨ b = 238 ∨ b = 239 ∨ b = 240 ∨ (241 ≤ b ∧ b ≤ 243) ∨ b = 244 by omega) with h1 | rfl | ⟨h1, h2⟩ | rfl | rfl | rfl | rfl | ⟨h1, h2⟩ | rfl
      · rw [decide_eq_true (p := 194 ≤ b ∧ b ≤ 223) (by omega)]
        go_wp2_with fail
        go_meet
        exact ⟨rfl, 1, 128, 191, rfl, rfl, rfl, Lib.hid (by rw [HB.out]; unfold VC; omega), rfl⟩
      · go_wp2_with fail
        go_meet
        exact ⟨rfl, 2, 160, 191, rfl, rfl, rfl, Lib.hid (by rw [HB.out]; unfold VC; omega), rfl⟩
      · rw [decide_eq_false (p := 194 ≤ b ∧ b ≤ 223) (by omega)]
        have t1 : ((b : Int) == 224) = false := beq_eq_false_iff_ne.2 (by omega)
        go_wp2_with fail
        go_meet
        exact ⟨rfl, 2, 128, 191, rfl, rfl, rfl, Lib.hid (by rw [HB.out]; unfold VC; omega), rfl⟩
      · go_wp2_with fail
        go_meet
        exact ⟨rfl, 2, 128, 159, rfl, rfl, rfl, Lib.hid (by rw [HB.out]; unfold VC; omega), rfl⟩
      · go_wp2_with fail
        go_meet
        exact ⟨rfl, 2, 128, 191, rfl, rfl, rfl, Lib.hid (by rw [HB.out]; unfold VC; omega), rfl⟩
      · go_wp2_with fail
        go_meet
        exact ⟨rfl, 2, 128, 191, rfl, rfl, rfl, Lib.hid (by rw [HB.out]; unfold VC; omega), rfl⟩
      · go_wp2_with fail
        go_meet
        exact ⟨rfl, 3, 144, 191, rfl, rfl, rfl, Lib.hid (by rw [HB.out]; unfold VC; omega), rfl⟩
      · rw [decide_eq_false (p := 194 ≤ b ∧ b ≤ 223) (by omega)]
        have t1 : ((b : Int) == 224) = false := beq_eq_false_iff_ne.2 (by omega)
        have t2 : ((b : Int) == 237) = false := beq_eq_false_iff_ne.2 (by omega)
        have t3 : ((b : Int) == 238) = false := beq_eq_false_iff_ne.2 (by omega)
        have t4 : ((b : Int) == 239) = false := beq_eq_false_iff_ne.2 (by omega)
        have t5 : ((b : Int) == 240) = false := beq_eq_false_iff_ne.2 (by omega)
        have g3 : 225 ≤ b := by omega
        have g4 : 236 < b := by omega
        go_wp2_with fail
        go_meet
        exact ⟨rfl, 3, 128, 191, rfl, rfl, rfl, Lib.hid (by rw [HB.out]; unfold VC; omega), rfl⟩
      · go_wp2_with fail
        go_meet
        exact ⟨rfl, 3, 128, 143, rfl, rfl, rfl, Lib.hid (by rw [HB.out]; unfold VC; omega), rfl⟩
    case rest =>
      obtain ⟨rfl, nd, lo, hi', rfl, rfl, rfl, HVC, rfl⟩ := hcut
      have hnd : nd ≤ 3 ∧ 1 ≤ nd := by rcases HVC.out with h | h | h | h | h | h | h | h <;> omega
      by_cases hn : i + nd < s.size
      · have hn1 : i + 1 < s.size := by omega
        have e1 := byteAt_get s (i + 1) hn1
        obtain ⟨c, hc⟩ : ∃ c, byteAt s (i + 1) = c := ⟨_, rfl⟩
        rw [hc] at e1
        have HC := Lib.hid hc
        clear hc
        rcases (show c < lo ∨ (lo ≤ c ∧ hi' < c) ∨ (lo ≤ c ∧ c ≤ hi') by omega) with k1 | ⟨k1, k2⟩ | ⟨k1, k2⟩
        · go_wp2
          go_ret
          exact ⟨0, rfl, by omega, by omega, .inl rfl, rfl⟩
        · go_wp2
          go_ret
          exact ⟨0, rfl, by omega, by omega, .inl rfl, rfl⟩
        · go_wp2_with fail
          go_loopw [4, 11] (fun v a wr => v = .int .i64 0 ∧ ∃ k : Nat, 2 ≤ k ∧ k ≤ 4 ∧ a = .int .i64 k ∧ wr = wc ∧ Hid (∀ j, 2 ≤ j → j < k → j ≤ nd → 128 ≤ byteAt s (i + j) ∧ byteAt s (i + j) ≤ 191)) (fun _ a _ => 4 - (intOf a).toNat)
          case atStart => exact ⟨rfl, 2, by omega, by omega, rfl, rfl, Lib.hid (fun j h1 h2 => by omega)⟩
          case round =>
            obtain ⟨rfl, k, hk2, hk4, rfl, rfl, HK⟩ := hrel
            by_cases hkn : k ≤ nd
            · have hkz : i + k < s.size := by omega
              have ek := byteAt_get s (i + k) hkz
              obtain ⟨d, hd⟩ : ∃ d, byteAt s (i + k) = d := ⟨_, rfl⟩
              rw [hd] at ek
              have HD := Lib.hid hd
              clear hd
              rcases (show d < 128 ∨ (128 ≤ d ∧ 191 < d) ∨ (128 ≤ d ∧ d ≤ 191) by omega) with q1 | ⟨q1, q2⟩ | ⟨q1, q2⟩
              · go_wp2
                go_ret
                exact ⟨0, rfl, by omega, by omega, .inl rfl, rfl⟩
              · go_wp2
                go_ret
                exact ⟨0, rfl, by omega, by omega, .inl rfl, rfl⟩
              · have HK2 : Hid (∀ j, 2 ≤ j → j < k + 1 → j ≤ nd → 128 ≤ byteAt s (i + j) ∧ byteAt s (i + j) ≤ 191) := Lib.hid (fun j h1 h2 h3 => by
                  rcases (show j = k ∨ j < k by omega) with rfl | hl
                  · rw [HD.out]; exact ⟨q1, q2⟩
                  · exact HK.out j h1 hl h3)
                clear HK
                go_wp2
                go_roundw
                case rel => exact ⟨by first | rfl | trivial, k + 1, by omega, by omega, by go_num, by first | rfl | trivial, HK2⟩
                case measure => simp [intOf]; omega
            · have hkn' : nd < k := by omega
              have HV : Hid (VL s i (nd + 1)) := Lib.hid (vl_of hi HVC.out hn (by rw [HC.out]; exact k1) (by rw [HC.out]; exact k2) (fun j h1 h2 => HK.out j h1 (by omega) h2))
              clear HK hkn
              go_wp2
              go_ret
              exact ⟨nd + 1, by go_num, by omega, by omega, HV.out, rfl⟩
      · have hn' : s.size ≤ i + nd := by omega
        clear hn
        go_wp2
        go_ret
        exact ⟨0, rfl, by omega, by omega, .inl rfl, rfl⟩
set_option maxRecDepth 100000 in
set_option maxHeartbeats 4000000 in
theorem vl_any (s : ByteArray) (i : Nat) (w : World) (hi : i < s.size) (hz : s.size ≤ 1048576) : Calls Tryd.prog 21 #[.string s, .int .i64 i] w (Vlen s i w) := by
  have eb := byteAt_get s i hi
  have hbl := byteAt_lt s i
  obtain ⟨b, hb⟩ : ∃ b, byteAt s i = b := ⟨_, rfl⟩
  rw [hb] at eb hbl
  have HB := Lib.hid hb
  clear hb
  rcases (show b < 128 ∨ (128 ≤ b ∧ b < 194) ∨ 244 < b ∨ ∃ nd lo hi, VC b nd lo hi ∧ 128 ≤ b by
    by_cases c0 : b < 128
    · exact .inl c0
    by_cases c1 : b < 194
    · exact .inr (.inl ⟨by omega, c1⟩)
    by_cases c2 : 244 < b
    · exact .inr (.inr (.inl c2))
    refine .inr (.inr (.inr ?_))
    rcases (show (194 ≤ b ∧ b ≤ 223) ∨ b = 224 ∨ (225 ≤ b ∧ b ≤ 236) ∨ b = 237 ∨ (238 ≤ b ∧ b ≤ 239) ∨ b = 240 ∨ (241 ≤ b ∧ b ≤ 243) ∨ b = 244 by omega) with h | h | h | h | h | h | h | h
    · exact ⟨1, 128, 191, by unfold VC; omega, by omega⟩
    · exact ⟨2, 160, 191, by unfold VC; omega, by omega⟩
    · exact ⟨2, 128, 191, by unfold VC; omega, by omega⟩
    · exact ⟨2, 128, 159, by unfold VC; omega, by omega⟩
    · exact ⟨2, 128, 191, by unfold VC; omega, by omega⟩
    · exact ⟨3, 144, 191, by unfold VC; omega, by omega⟩
    · exact ⟨3, 128, 191, by unfold VC; omega, by omega⟩
    · exact ⟨3, 128, 143, by unfold VC; omega, by omega⟩) with h | ⟨h1, h2⟩ | h | ⟨nd, lo, hi', hvc, h128⟩
  · go_enter Tryd.func21, Tryd.ntmps21
    go_wp2
    go_ret
    exact ⟨1, rfl, by omega, by omega, .inr (.inl ⟨rfl, by rw [HB.out]; exact h⟩), rfl⟩
  · have t1 : ((b : Int) == 224) = false := beq_eq_false_iff_ne.2 (by omega)
    have t2 : ((b : Int) == 237) = false := beq_eq_false_iff_ne.2 (by omega)
    have t3 : ((b : Int) == 238) = false := beq_eq_false_iff_ne.2 (by omega)
    have t4 : ((b : Int) == 239) = false := beq_eq_false_iff_ne.2 (by omega)
    have t5 : ((b : Int) == 240) = false := beq_eq_false_iff_ne.2 (by omega)
    have t6 : ((b : Int) == 244) = false := beq_eq_false_iff_ne.2 (by omega)
    have t7 : b < 225 := by omega
    have t8 : b < 241 := by omega
    go_enter Tryd.func21, Tryd.ntmps21
    go_wp2
    go_ret
    exact ⟨0, rfl, by omega, by omega, .inl rfl, rfl⟩
  · have t1 : ((b : Int) == 224) = false := beq_eq_false_iff_ne.2 (by omega)
    have t2 : ((b : Int) == 237) = false := beq_eq_false_iff_ne.2 (by omega)
    have t3 : ((b : Int) == 238) = false := beq_eq_false_iff_ne.2 (by omega)
    have t4 : ((b : Int) == 239) = false := beq_eq_false_iff_ne.2 (by omega)
    have t5 : ((b : Int) == 240) = false := beq_eq_false_iff_ne.2 (by omega)
    have t6 : ((b : Int) == 244) = false := beq_eq_false_iff_ne.2 (by omega)
    have g0 : 128 ≤ b := by omega
    have g1 : 194 ≤ b := by omega
    have g2 : 223 < b := by omega
    have g3 : 225 ≤ b := by omega
    have g4 : 236 < b := by omega
    have g5 : 241 ≤ b := by omega
    have g6 : 243 < b := by omega
    clear h
    go_enter Tryd.func21, Tryd.ntmps21
    go_wp2
    go_ret
    exact ⟨0, rfl, by omega, by omega, .inl rfl, rfl⟩
  · have h244 : 194 ≤ b ∧ b ≤ 244 := by rcases hvc with h | h | h | h | h | h | h | h <;> omega
    exact vl_lead s i b w hi hz HB h244.1 h244.2
/-! zzAllValidUTF8 -/
theorem av_any (s : ByteArray) (pos : Nat) (w : World) (hz : s.size ≤ 1048576) (hb : pos < s.size → byteAt s pos < 128 ∨ 191 < byteAt s pos) :
    Calls Tryd.prog 13 #[.string s] w fun e w' => (e = .returned (.bool false) ∨ (e = .returned (.bool true) ∧ Vis s pos s.size)) ∧ w' = w := by
  have HBd := Lib.hid hb
  clear hb
  go_enter Tryd.func13, Tryd.ntmps13
  go_wp2_with fail
  go_loopw [2, 3] (fun v a wr => v = .bool false ∧ ∃ k : Nat, k ≤ s.size ∧ a = .int .i64 k ∧ wr = w ∧ Hid (Vis s pos k)) (fun _ a _ => s.size - (intOf a).toNat)
  case atStart => exact ⟨rfl, 0, Nat.zero_le _, rfl, rfl, Lib.hid (fun c => by omega)⟩
  case round =>
    obtain ⟨rfl, k, hk, rfl, rfl, HK⟩ := hrel
    rcases (show k = s.size ∨ k < s.size by omega) with rfl | hlt
    · go_wp2
      go_ret
      exact ⟨.inr ⟨rfl, HK.out⟩, rfl⟩
    · go_wp2_with fail
      refine (vl_any s k _ hlt hz).mono ?_
      rintro e w1 ⟨v, rfl, h4, hv, hvl, rfl⟩
      by_cases h0 : v = 0
      · subst h0
        clear hvl
        go_wp2
        go_ret
        exact ⟨.inl rfl, rfl⟩
      · have HV : Hid (Vis s pos (k + v)) := Lib.hid (HK.out.step HBd.out hlt (by omega) hvl)
        have t1 : ((v : Int) == 0) = false := beq_eq_false_iff_ne.2 (by omega)
        clear hvl HK
        go_wp2
        go_roundw
        case rel => exact ⟨by first | rfl | trivial, k + v, hv, by go_num, by first | rfl | trivial, HV⟩
        case measure => simp [intOf]; omega
end Go.Proofs.YtpgfepilblhpdaaDoor
