/-
  The walk of the law's own decoder (n011_93.zzDecode) against the model's Utf8.decode, one theorem a class of lead bytes (printed by gen_zz.py). No statement of the seat is proved here.
-/
import Derived.Test.YtlbpplkanogkgaaDoorRows
import Derived.WalkKit
import Derived.ProofKit
import Derived.WalkSpells
import Derived.WalkLawsBesides
import Derived.LoopTactic
import Derived.RegionTactic
import Derived.ChangeAlike
import Derived.BigQuiet
import Derived.Deep.QuietTactic
import Derived.WalkSmall
import Derived.Lib.OthersKept
import Derived.Test.YtlbpplkanogkgaaDoorBase
import Derived.Test.YtlbpplkanogkgaaDoorUtf
namespace Go.Proofs.YtlbpplkanogkgaaDoor
open Go.RowKit
set_option linter.unusedVariables false
set_option maxRecDepth 4000
def zbad (lo hi k b : Nat) : Bool := if k = 1 then decide (b < lo) || decide (hi < b) else decide (b < 128) || decide (191 < b)
/-- the loop of the law's decoder: m rounds left, at byte i + k, v so far -/
def zl (s : ByteArray) (i need lo hi : Nat) : Nat → Nat → Nat → Nat × Nat
  | 0, _, v => (v, need + 1)
  | m + 1, k, v => if s.size ≤ i + k then (65533, 1) else if zbad lo hi k (s.get! (i + k)).toNat = true then (65533, 1) else zl s i need lo hi m (k + 1) (v * 64 + (s.get! (i + k)).toNat % 64)
theorem zl_out {s : ByteArray} {i need lo hi m k v : Nat} (h : s.size ≤ i + k) : zl s i need lo hi (m + 1) k v = (65533, 1) := by rw [zl, if_pos h]
theorem zl_bad {s : ByteArray} {i need lo hi m k v : Nat} (h : i + k < s.size) (hb : zbad lo hi k (s.get! (i + k)).toNat = true) : zl s i need lo hi (m + 1) k v = (65533, 1) := by rw [zl, if_neg (by omega), if_pos hb]
theorem zl_go {s : ByteArray} {i need lo hi m k v : Nat} (h : i + k < s.size) (hb : zbad lo hi k (s.get! (i + k)).toNat = false) : zl s i need lo hi (m + 1) k v = zl s i need lo hi m (k + 1) (v * 64 + (s.get! (i + k)).toNat % 64) := by rw [zl, if_neg (by omega), if_neg (by simp [hb])]
theorem u8lt (b : UInt8) : b.toNat < 256 := b.toNat_lt
theorem ret_two {x y x' y' : Nat} {P : Nat × Nat} (h : P = (x', y')) (h1 : x = x') (h2 : y = y') : Ending.returned (.tuple #[.int .i32 x, .int .i64 y]) = .returned (.tuple #[.int .i32 P.1, .int .i64 P.2]) := by subst h h1 h2; rfl
theorem zl_2 (s : ByteArray) (i : Nat) (h : i < s.size) (h0 : 194 ≤ (s.get! i).toNat) (h1 : (s.get! i).toNat ≤ 223) : zl s i 1 128 191 1 1 ((s.get! i).toNat % 32) = Utf8.decode s i := by
  rw [Lib.decode_at]
  have q1 := u8lt (s.get! (i + 1))
  by_cases a : i + 1 < s.size
  · cases hb : zbad 128 191 1 (s.get! (i + 1)).toNat
    · rw [zl_go a hb, zl]
      simp [zbad] at hb
      rw [dec_2 _ _ _ _ _ h0 h1 (by omega) hb.1 hb.2]
    · rw [zl_bad a hb]
      simp [zbad] at hb
      rw [dec_2n _ _ _ _ _ h0 h1 (by omega) q1]
  · rw [zl_out (by omega), dec_2n _ _ _ _ _ h0 h1 (by omega) q1]
theorem zl_3 (s : ByteArray) (i : Nat) (h : i < s.size) (h0 : 224 ≤ (s.get! i).toNat) (h1 : (s.get! i).toNat ≤ 239) : zl s i 2 (lo3 (s.get! i).toNat) (hi3 (s.get! i).toNat) 2 1 ((s.get! i).toNat % 16) = Utf8.decode s i := by
  rw [Lib.decode_at]
  have q1 := u8lt (s.get! (i + 1))
  have q2 := u8lt (s.get! (i + 2))
  by_cases a : i + 1 < s.size
  · cases hb : zbad (lo3 (s.get! i).toNat) (hi3 (s.get! i).toNat) 1 (s.get! (i + 1)).toNat
    · rw [zl_go a hb]
      simp [zbad] at hb
      by_cases a2 : i + 2 < s.size
      · cases hc : zbad (lo3 (s.get! i).toNat) (hi3 (s.get! i).toNat) 2 (s.get! (i + 2)).toNat
        · rw [zl_go a2 hc, zl]
          simp [zbad] at hc
          rw [dec_3 _ _ _ _ _ h0 h1 (by omega) hb.1 hb.2 hc.1 hc.2]
          refine Prod.ext ?_ rfl
          dsimp only
          omega
        · rw [zl_bad a2 hc]
          simp [zbad] at hc
          rw [dec_3n _ _ _ _ _ h0 h1 (by omega) q1 q2]
      · rw [zl_out (by omega), dec_3n _ _ _ _ _ h0 h1 (by omega) q1 q2]
    · rw [zl_bad a hb]
      simp [zbad] at hb
      rw [dec_3n _ _ _ _ _ h0 h1 (by omega) q1 q2]
  · rw [zl_out (by omega), dec_3n _ _ _ _ _ h0 h1 (by omega) q1 q2]
theorem zl_4 (s : ByteArray) (i : Nat) (h : i < s.size) (h0 : 240 ≤ (s.get! i).toNat) (h1 : (s.get! i).toNat ≤ 244) : zl s i 3 (lo4 (s.get! i).toNat) (hi4 (s.get! i).toNat) 3 1 ((s.get! i).toNat % 8) = Utf8.decode s i := by
  rw [Lib.decode_at]
  have q1 := u8lt (s.get! (i + 1))
  have q2 := u8lt (s.get! (i + 2))
  have q3 := u8lt (s.get! (i + 3))
  by_cases a : i + 1 < s.size
  · cases hb : zbad (lo4 (s.get! i).toNat) (hi4 (s.get! i).toNat) 1 (s.get! (i + 1)).toNat
    · rw [zl_go a hb]
      simp [zbad] at hb
      by_cases a2 : i + 2 < s.size
      · cases hc : zbad (lo4 (s.get! i).toNat) (hi4 (s.get! i).toNat) 2 (s.get! (i + 2)).toNat
        · rw [zl_go a2 hc]
          simp [zbad] at hc
          by_cases a3 : i + 3 < s.size
          · cases hd : zbad (lo4 (s.get! i).toNat) (hi4 (s.get! i).toNat) 3 (s.get! (i + 3)).toNat
            · rw [zl_go a3 hd, zl]
              simp [zbad] at hd
              rw [dec_4 _ _ _ _ _ h0 h1 (by omega) hb.1 hb.2 hc.1 hc.2 hd.1 hd.2]
              refine Prod.ext ?_ rfl
              dsimp only
              omega
            · rw [zl_bad a3 hd]
              simp [zbad] at hd
              rw [dec_4n _ _ _ _ _ h0 h1 (by omega) q1 q2 q3]
          · rw [zl_out (by omega), dec_4n _ _ _ _ _ h0 h1 (by omega) q1 q2 q3]
        · rw [zl_bad a2 hc]
          simp [zbad] at hc
          rw [dec_4n _ _ _ _ _ h0 h1 (by omega) q1 q2 q3]
      · rw [zl_out (by omega), dec_4n _ _ _ _ _ h0 h1 (by omega) q1 q2 q3]
    · rw [zl_bad a hb]
      simp [zbad] at hb
      rw [dec_4n _ _ _ _ _ h0 h1 (by omega) q1 q2 q3]
  · rw [zl_out (by omega), dec_4n _ _ _ _ _ h0 h1 (by omega) q1 q2 q3]

set_option maxHeartbeats 2000000 in
theorem zz_2 (s : ByteArray) (i b0 : Nat) (w : World) (h : i < s.size) (hs : s.size ≤ 1048576) (e0 : (s[i]'h).toNat = b0) (h0 : 194 ≤ b0) (h1 : b0 < 224) :
    Calls Tryd.prog 16 #[.string s, .int .i64 i] w fun e w' => e = .returned (.tuple #[.int .i32 (zl s i 1 128 191 1 1 (b0 % 32)).1, .int .i64 (zl s i 1 128 191 1 1 (b0 % 32)).2]) ∧ w' = w := by
  have hm := u8_31 b0 (by omega)
  have hv := Nat.mod_lt b0 (show 0 < 32 by omega)
  generalize b0 % 32 = v0 at hm hv
  have t0 : decide ((b0 : Int) < 224) = true := by simp; omega
  generalize hF : zl s i 1 128 191 1 1 v0 = F
  have HF := Lib.hid hF
  clear hF
  go_enter Tryd.func16, Tryd.ntmps16
  go_wp2
  go_loop [4, 5, 11, 12] (fun _ _ x y => ∃ (k v : Nat), y = .int .i64 k ∧ x = .int .i32 v ∧ 1 ≤ k ∧ k ≤ 2 ∧ v < 64 ^ k ∧ Hid (zl s i 1 128 191 (2 - k) k v = F)) (fun _ _ _ y => 2 - (intOf y).toNat)
  case atStart => exact ⟨1, v0, rfl, rfl, by omega, by omega, by omega, HF⟩
  case round =>
    obtain ⟨k, v, rfl, rfl, hk1, hk2, hv1, HD⟩ := hrel
    rcases (show k = 2 ∨ k < 2 by omega) with rfl | hn
    · have hD := HD.out
      rw [zl] at hD
      subst hD
      go_wp2
      go_ret2
      exact ⟨rfl, rfl⟩
    · obtain ⟨m, hm1⟩ : ∃ m, 2 - k = m + 1 := ⟨1 - k, by omega⟩
      have hv2 : v < 262144 := Nat.lt_of_lt_of_le hv1 (Nat.pow_le_pow_right (by omega) (show k ≤ 3 by omega))
      by_cases a : i + k < s.size
      · obtain ⟨b, e1⟩ : ∃ b, (s[i + k]'a).toNat = b := ⟨_, rfl⟩
        have hb : b < 256 := e1 ▸ u8lt _
        have hg : (s.get! (i + k)).toNat = b := by rw [get!_at s _ a]; exact e1
        have hm2 := u8_63 b hb
        have hor := i32_or_shift v (b % 64) 6 (by omega) (by omega) (by omega)
        have hsum : v * 64 + b % 64 < 64 ^ (k + 1) := by
          rw [Nat.pow_succ]; have := Nat.mod_lt b (show 0 < 64 by omega); omega
        have HS := Lib.hid hsum
        have HG := Lib.hid hg
        have HM := Lib.hid hm1
        have hc := Nat.mod_lt b (show 0 < 64 by omega)
        clear hsum hg hm1 hv1
        rcases (show k = 1 ∨ 2 ≤ k by omega) with rfl | hk3
        · by_cases hbad : 128 ≤ b ∧ b ≤ 191
          · obtain ⟨hb1, hb2⟩ := hbad
            have HN : Hid (zl s i 1 128 191 (2 - (1 + 1)) (1 + 1) (v * 64 + b % 64) = F) := Lib.hid (by
              have := HD.out
              rw [HM.out, zl_go a (by rw [HG.out]; simp [zbad]; omega), HG.out] at this
              rwa [show 2 - (1 + 1) = m by have := HM.out; omega])
            generalize b % 64 = c at hm2 hor HN hc HS
            go_wp2
            exact ⟨⟨2, v * 64 + c, rfl, by simp, by omega, by omega, HS.out, HN⟩, by decide⟩
          · have hD := HD.out
            rw [HM.out, zl_bad a (by rw [HG.out]; simp [zbad]; omega)] at hD
            subst hD
            rcases (show b < 128 ∨ (128 ≤ b ∧ 191 < b) by omega) with hb1 | ⟨hb1, hb2⟩
            · clear hbad
              go_wp2
              go_ret2
              exact ⟨rfl, rfl⟩
            · clear hbad
              go_wp2
              go_ret2
              exact ⟨rfl, rfl⟩
        · omega
      · have hD := HD.out
        rw [hm1, zl_out (by omega)] at hD
        subst hD
        go_wp2
        go_ret2
        exact ⟨rfl, rfl⟩

set_option maxHeartbeats 2000000 in
theorem zz_e0 (s : ByteArray) (i b0 : Nat) (w : World) (h : i < s.size) (hs : s.size ≤ 1048576) (e0 : (s[i]'h).toNat = b0) (h0 : 224 ≤ b0) (h1 : b0 ≤ 224) :
    Calls Tryd.prog 16 #[.string s, .int .i64 i] w fun e w' => e = .returned (.tuple #[.int .i32 (zl s i 2 160 191 2 1 (b0 % 16)).1, .int .i64 (zl s i 2 160 191 2 1 (b0 % 16)).2]) ∧ w' = w := by
  have hm := u8_15 b0 (by omega)
  have hv := Nat.mod_lt b0 (show 0 < 16 by omega)
  generalize b0 % 16 = v0 at hm hv
  have t0 : decide ((b0 : Int) < 224) = false := by simp; omega
  have t1 : decide ((b0 : Int) < 240) = true := by simp; omega
  have t2 : ((b0 : Int) == 224) = true := by simp; omega
  have t3 : ((b0 : Int) == 237) = false := by simp; omega
  generalize hF : zl s i 2 160 191 2 1 v0 = F
  have HF := Lib.hid hF
  clear hF
  go_enter Tryd.func16, Tryd.ntmps16
  go_wp2
  go_loop [4, 5, 11, 12] (fun _ _ x y => ∃ (k v : Nat), y = .int .i64 k ∧ x = .int .i32 v ∧ 1 ≤ k ∧ k ≤ 3 ∧ v < 64 ^ k ∧ Hid (zl s i 2 160 191 (3 - k) k v = F)) (fun _ _ _ y => 3 - (intOf y).toNat)
  case atStart => exact ⟨1, v0, rfl, rfl, by omega, by omega, by omega, HF⟩
  case round =>
    obtain ⟨k, v, rfl, rfl, hk1, hk2, hv1, HD⟩ := hrel
    rcases (show k = 3 ∨ k < 3 by omega) with rfl | hn
    · have hD := HD.out
      rw [zl] at hD
      subst hD
      go_wp2
      go_ret2
      exact ⟨rfl, rfl⟩
    · obtain ⟨m, hm1⟩ : ∃ m, 3 - k = m + 1 := ⟨2 - k, by omega⟩
      have hv2 : v < 262144 := Nat.lt_of_lt_of_le hv1 (Nat.pow_le_pow_right (by omega) (show k ≤ 3 by omega))
      by_cases a : i + k < s.size
      · obtain ⟨b, e1⟩ : ∃ b, (s[i + k]'a).toNat = b := ⟨_, rfl⟩
        have hb : b < 256 := e1 ▸ u8lt _
        have hg : (s.get! (i + k)).toNat = b := by rw [get!_at s _ a]; exact e1
        have hm2 := u8_63 b hb
        have hor := i32_or_shift v (b % 64) 6 (by omega) (by omega) (by omega)
        have hsum : v * 64 + b % 64 < 64 ^ (k + 1) := by
          rw [Nat.pow_succ]; have := Nat.mod_lt b (show 0 < 64 by omega); omega
        have HS := Lib.hid hsum
        have HG := Lib.hid hg
        have HM := Lib.hid hm1
        have hc := Nat.mod_lt b (show 0 < 64 by omega)
        clear hsum hg hm1 hv1
        rcases (show k = 1 ∨ 2 ≤ k by omega) with rfl | hk3
        · by_cases hbad : 160 ≤ b ∧ b ≤ 191
          · obtain ⟨hb1, hb2⟩ := hbad
            have HN : Hid (zl s i 2 160 191 (3 - (1 + 1)) (1 + 1) (v * 64 + b % 64) = F) := Lib.hid (by
              have := HD.out
              rw [HM.out, zl_go a (by rw [HG.out]; simp [zbad]; omega), HG.out] at this
              rwa [show 3 - (1 + 1) = m by have := HM.out; omega])
            generalize b % 64 = c at hm2 hor HN hc HS
            go_wp2
            exact ⟨⟨2, v * 64 + c, rfl, by simp, by omega, by omega, HS.out, HN⟩, by decide⟩
          · have hD := HD.out
            rw [HM.out, zl_bad a (by rw [HG.out]; simp [zbad]; omega)] at hD
            subst hD
            rcases (show b < 160 ∨ (160 ≤ b ∧ 191 < b) by omega) with hb1 | ⟨hb1, hb2⟩
            · clear hbad
              go_wp2
              go_ret2
              exact ⟨rfl, rfl⟩
            · clear hbad
              go_wp2
              go_ret2
              exact ⟨rfl, rfl⟩
        · have hk4 : ((k : Int) == 1) = false := by simp; omega
          by_cases hbad : 128 ≤ b ∧ b ≤ 191
          · obtain ⟨hb1, hb2⟩ := hbad
            have HN : Hid (zl s i 2 160 191 (3 - (k + 1)) (k + 1) (v * 64 + b % 64) = F) := Lib.hid (by
              have := HD.out
              rw [HM.out, zl_go a (by rw [HG.out]; simp [zbad, show ¬ k = 1 by omega]; omega), HG.out] at this
              rwa [show 3 - (k + 1) = m by have := HM.out; omega])
            generalize b % 64 = c at hm2 hor HN hc HS
            go_wp2
            go_round
            case rel => exact ⟨k + 1, v * 64 + c, by simp, by simp, by omega, by omega, HS.out, HN⟩
            case measure => show 3 - ((k : Int) + 1).toNat < 3 - (k : Int).toNat; omega
          · have hD := HD.out
            rw [HM.out, zl_bad a (by rw [HG.out]; simp [zbad, show ¬ k = 1 by omega]; omega)] at hD
            subst hD
            rcases (show b < 128 ∨ (128 ≤ b ∧ 191 < b) by omega) with hb1 | ⟨hb1, hb2⟩
            · clear hbad
              go_wp2
              go_ret2
              exact ⟨rfl, rfl⟩
            · clear hbad
              go_wp2
              go_ret2
              exact ⟨rfl, rfl⟩
      · have hD := HD.out
        rw [hm1, zl_out (by omega)] at hD
        subst hD
        go_wp2
        go_ret2
        exact ⟨rfl, rfl⟩

set_option maxHeartbeats 2000000 in
theorem zz_ed (s : ByteArray) (i b0 : Nat) (w : World) (h : i < s.size) (hs : s.size ≤ 1048576) (e0 : (s[i]'h).toNat = b0) (h0 : 237 ≤ b0) (h1 : b0 ≤ 237) :
    Calls Tryd.prog 16 #[.string s, .int .i64 i] w fun e w' => e = .returned (.tuple #[.int .i32 (zl s i 2 128 159 2 1 (b0 % 16)).1, .int .i64 (zl s i 2 128 159 2 1 (b0 % 16)).2]) ∧ w' = w := by
  have hm := u8_15 b0 (by omega)
  have hv := Nat.mod_lt b0 (show 0 < 16 by omega)
  generalize b0 % 16 = v0 at hm hv
  have t0 : decide ((b0 : Int) < 224) = false := by simp; omega
  have t1 : decide ((b0 : Int) < 240) = true := by simp; omega
  have t2 : ((b0 : Int) == 224) = false := by simp; omega
  have t3 : ((b0 : Int) == 237) = true := by simp; omega
  generalize hF : zl s i 2 128 159 2 1 v0 = F
  have HF := Lib.hid hF
  clear hF
  go_enter Tryd.func16, Tryd.ntmps16
  go_wp2
  go_loop [4, 5, 11, 12] (fun _ _ x y => ∃ (k v : Nat), y = .int .i64 k ∧ x = .int .i32 v ∧ 1 ≤ k ∧ k ≤ 3 ∧ v < 64 ^ k ∧ Hid (zl s i 2 128 159 (3 - k) k v = F)) (fun _ _ _ y => 3 - (intOf y).toNat)
  case atStart => exact ⟨1, v0, rfl, rfl, by omega, by omega, by omega, HF⟩
  case round =>
    obtain ⟨k, v, rfl, rfl, hk1, hk2, hv1, HD⟩ := hrel
    rcases (show k = 3 ∨ k < 3 by omega) with rfl | hn
    · have hD := HD.out
      rw [zl] at hD
      subst hD
      go_wp2
      go_ret2
      exact ⟨rfl, rfl⟩
    · obtain ⟨m, hm1⟩ : ∃ m, 3 - k = m + 1 := ⟨2 - k, by omega⟩
      have hv2 : v < 262144 := Nat.lt_of_lt_of_le hv1 (Nat.pow_le_pow_right (by omega) (show k ≤ 3 by omega))
      by_cases a : i + k < s.size
      · obtain ⟨b, e1⟩ : ∃ b, (s[i + k]'a).toNat = b := ⟨_, rfl⟩
        have hb : b < 256 := e1 ▸ u8lt _
        have hg : (s.get! (i + k)).toNat = b := by rw [get!_at s _ a]; exact e1
        have hm2 := u8_63 b hb
        have hor := i32_or_shift v (b % 64) 6 (by omega) (by omega) (by omega)
        have hsum : v * 64 + b % 64 < 64 ^ (k + 1) := by
          rw [Nat.pow_succ]; have := Nat.mod_lt b (show 0 < 64 by omega); omega
        have HS := Lib.hid hsum
        have HG := Lib.hid hg
        have HM := Lib.hid hm1
        have hc := Nat.mod_lt b (show 0 < 64 by omega)
        clear hsum hg hm1 hv1
        rcases (show k = 1 ∨ 2 ≤ k by omega) with rfl | hk3
        · by_cases hbad : 128 ≤ b ∧ b ≤ 159
          · obtain ⟨hb1, hb2⟩ := hbad
            have HN : Hid (zl s i 2 128 159 (3 - (1 + 1)) (1 + 1) (v * 64 + b % 64) = F) := Lib.hid (by
              have := HD.out
              rw [HM.out, zl_go a (by rw [HG.out]; simp [zbad]; omega), HG.out] at this
              rwa [show 3 - (1 + 1) = m by have := HM.out; omega])
            generalize b % 64 = c at hm2 hor HN hc HS
            go_wp2
            exact ⟨⟨2, v * 64 + c, rfl, by simp, by omega, by omega, HS.out, HN⟩, by decide⟩
          · have hD := HD.out
            rw [HM.out, zl_bad a (by rw [HG.out]; simp [zbad]; omega)] at hD
            subst hD
            rcases (show b < 128 ∨ (128 ≤ b ∧ 159 < b) by omega) with hb1 | ⟨hb1, hb2⟩
            · clear hbad
              go_wp2
              go_ret2
              exact ⟨rfl, rfl⟩
            · clear hbad
              go_wp2
              go_ret2
              exact ⟨rfl, rfl⟩
        · have hk4 : ((k : Int) == 1) = false := by simp; omega
          by_cases hbad : 128 ≤ b ∧ b ≤ 191
          · obtain ⟨hb1, hb2⟩ := hbad
            have HN : Hid (zl s i 2 128 159 (3 - (k + 1)) (k + 1) (v * 64 + b % 64) = F) := Lib.hid (by
              have := HD.out
              rw [HM.out, zl_go a (by rw [HG.out]; simp [zbad, show ¬ k = 1 by omega]; omega), HG.out] at this
              rwa [show 3 - (k + 1) = m by have := HM.out; omega])
            generalize b % 64 = c at hm2 hor HN hc HS
            go_wp2
            go_round
            case rel => exact ⟨k + 1, v * 64 + c, by simp, by simp, by omega, by omega, HS.out, HN⟩
            case measure => show 3 - ((k : Int) + 1).toNat < 3 - (k : Int).toNat; omega
          · have hD := HD.out
            rw [HM.out, zl_bad a (by rw [HG.out]; simp [zbad, show ¬ k = 1 by omega]; omega)] at hD
            subst hD
            rcases (show b < 128 ∨ (128 ≤ b ∧ 191 < b) by omega) with hb1 | ⟨hb1, hb2⟩
            · clear hbad
              go_wp2
              go_ret2
              exact ⟨rfl, rfl⟩
            · clear hbad
              go_wp2
              go_ret2
              exact ⟨rfl, rfl⟩
      · have hD := HD.out
        rw [hm1, zl_out (by omega)] at hD
        subst hD
        go_wp2
        go_ret2
        exact ⟨rfl, rfl⟩

set_option maxHeartbeats 2000000 in
theorem zz_3 (s : ByteArray) (i b0 : Nat) (w : World) (h : i < s.size) (hs : s.size ≤ 1048576) (e0 : (s[i]'h).toNat = b0) (h0 : 225 ≤ b0) (h1 : b0 < 240) (h2 : ¬ b0 = 237) :
    Calls Tryd.prog 16 #[.string s, .int .i64 i] w fun e w' => e = .returned (.tuple #[.int .i32 (zl s i 2 128 191 2 1 (b0 % 16)).1, .int .i64 (zl s i 2 128 191 2 1 (b0 % 16)).2]) ∧ w' = w := by
  have hm := u8_15 b0 (by omega)
  have hv := Nat.mod_lt b0 (show 0 < 16 by omega)
  generalize b0 % 16 = v0 at hm hv
  have t0 : decide ((b0 : Int) < 224) = false := by simp; omega
  have t1 : decide ((b0 : Int) < 240) = true := by simp; omega
  have t2 : ((b0 : Int) == 224) = false := by simp; omega
  have t3 : ((b0 : Int) == 237) = false := by simp; omega
  generalize hF : zl s i 2 128 191 2 1 v0 = F
  have HF := Lib.hid hF
  clear hF
  go_enter Tryd.func16, Tryd.ntmps16
  go_wp2
  go_loop [4, 5, 11, 12] (fun _ _ x y => ∃ (k v : Nat), y = .int .i64 k ∧ x = .int .i32 v ∧ 1 ≤ k ∧ k ≤ 3 ∧ v < 64 ^ k ∧ Hid (zl s i 2 128 191 (3 - k) k v = F)) (fun _ _ _ y => 3 - (intOf y).toNat)
  case atStart => exact ⟨1, v0, rfl, rfl, by omega, by omega, by omega, HF⟩
  case round =>
    obtain ⟨k, v, rfl, rfl, hk1, hk2, hv1, HD⟩ := hrel
    rcases (show k = 3 ∨ k < 3 by omega) with rfl | hn
    · have hD := HD.out
      rw [zl] at hD
      subst hD
      go_wp2
      go_ret2
      exact ⟨rfl, rfl⟩
    · obtain ⟨m, hm1⟩ : ∃ m, 3 - k = m + 1 := ⟨2 - k, by omega⟩
      have hv2 : v < 262144 := Nat.lt_of_lt_of_le hv1 (Nat.pow_le_pow_right (by omega) (show k ≤ 3 by omega))
      by_cases a : i + k < s.size
      · obtain ⟨b, e1⟩ : ∃ b, (s[i + k]'a).toNat = b := ⟨_, rfl⟩
        have hb : b < 256 := e1 ▸ u8lt _
        have hg : (s.get! (i + k)).toNat = b := by rw [get!_at s _ a]; exact e1
        have hm2 := u8_63 b hb
        have hor := i32_or_shift v (b % 64) 6 (by omega) (by omega) (by omega)
        have hsum : v * 64 + b % 64 < 64 ^ (k + 1) := by
          rw [Nat.pow_succ]; have := Nat.mod_lt b (show 0 < 64 by omega); omega
        have HS := Lib.hid hsum
        have HG := Lib.hid hg
        have HM := Lib.hid hm1
        have hc := Nat.mod_lt b (show 0 < 64 by omega)
        clear hsum hg hm1 hv1
        rcases (show k = 1 ∨ 2 ≤ k by omega) with rfl | hk3
        · by_cases hbad : 128 ≤ b ∧ b ≤ 191
          · obtain ⟨hb1, hb2⟩ := hbad
            have HN : Hid (zl s i 2 128 191 (3 - (1 + 1)) (1 + 1) (v * 64 + b % 64) = F) := Lib.hid (by
              have := HD.out
              rw [HM.out, zl_go a (by rw [HG.out]; simp [zbad]; omega), HG.out] at this
              rwa [show 3 - (1 + 1) = m by have := HM.out; omega])
            generalize b % 64 = c at hm2 hor HN hc HS
            go_wp2
            exact ⟨⟨2, v * 64 + c, rfl, by simp, by omega, by omega, HS.out, HN⟩, by decide⟩
          · have hD := HD.out
            rw [HM.out, zl_bad a (by rw [HG.out]; simp [zbad]; omega)] at hD
            subst hD
            rcases (show b < 128 ∨ (128 ≤ b ∧ 191 < b) by omega) with hb1 | ⟨hb1, hb2⟩
            · clear hbad
              go_wp2
              go_ret2
              exact ⟨rfl, rfl⟩
            · clear hbad
              go_wp2
              go_ret2
              exact ⟨rfl, rfl⟩
        · have hk4 : ((k : Int) == 1) = false := by simp; omega
          by_cases hbad : 128 ≤ b ∧ b ≤ 191
          · obtain ⟨hb1, hb2⟩ := hbad
            have HN : Hid (zl s i 2 128 191 (3 - (k + 1)) (k + 1) (v * 64 + b % 64) = F) := Lib.hid (by
              have := HD.out
              rw [HM.out, zl_go a (by rw [HG.out]; simp [zbad, show ¬ k = 1 by omega]; omega), HG.out] at this
              rwa [show 3 - (k + 1) = m by have := HM.out; omega])
            generalize b % 64 = c at hm2 hor HN hc HS
            go_wp2
            go_round
            case rel => exact ⟨k + 1, v * 64 + c, by simp, by simp, by omega, by omega, HS.out, HN⟩
            case measure => show 3 - ((k : Int) + 1).toNat < 3 - (k : Int).toNat; omega
          · have hD := HD.out
            rw [HM.out, zl_bad a (by rw [HG.out]; simp [zbad, show ¬ k = 1 by omega]; omega)] at hD
            subst hD
            rcases (show b < 128 ∨ (128 ≤ b ∧ 191 < b) by omega) with hb1 | ⟨hb1, hb2⟩
            · clear hbad
              go_wp2
              go_ret2
              exact ⟨rfl, rfl⟩
            · clear hbad
              go_wp2
              go_ret2
              exact ⟨rfl, rfl⟩
      · have hD := HD.out
        rw [hm1, zl_out (by omega)] at hD
        subst hD
        go_wp2
        go_ret2
        exact ⟨rfl, rfl⟩

set_option maxHeartbeats 2000000 in
theorem zz_f0 (s : ByteArray) (i b0 : Nat) (w : World) (h : i < s.size) (hs : s.size ≤ 1048576) (e0 : (s[i]'h).toNat = b0) (h0 : 240 ≤ b0) (h1 : b0 ≤ 240) :
    Calls Tryd.prog 16 #[.string s, .int .i64 i] w fun e w' => e = .returned (.tuple #[.int .i32 (zl s i 3 144 191 3 1 (b0 % 8)).1, .int .i64 (zl s i 3 144 191 3 1 (b0 % 8)).2]) ∧ w' = w := by
  have hm := u8_7 b0 (by omega)
  have hv := Nat.mod_lt b0 (show 0 < 8 by omega)
  generalize b0 % 8 = v0 at hm hv
  have t0 : decide ((b0 : Int) < 224) = false := by simp; omega
  have t1 : decide ((b0 : Int) < 240) = false := by simp; omega
  have t2 : ((b0 : Int) == 240) = true := by simp; omega
  have t3 : ((b0 : Int) == 244) = false := by simp; omega
  generalize hF : zl s i 3 144 191 3 1 v0 = F
  have HF := Lib.hid hF
  clear hF
  go_enter Tryd.func16, Tryd.ntmps16
  go_wp2
  go_loop [4, 5, 11, 12] (fun _ _ x y => ∃ (k v : Nat), y = .int .i64 k ∧ x = .int .i32 v ∧ 1 ≤ k ∧ k ≤ 4 ∧ v < 64 ^ k ∧ Hid (zl s i 3 144 191 (4 - k) k v = F)) (fun _ _ _ y => 4 - (intOf y).toNat)
  case atStart => exact ⟨1, v0, rfl, rfl, by omega, by omega, by omega, HF⟩
  case round =>
    obtain ⟨k, v, rfl, rfl, hk1, hk2, hv1, HD⟩ := hrel
    rcases (show k = 4 ∨ k < 4 by omega) with rfl | hn
    · have hD := HD.out
      rw [zl] at hD
      subst hD
      go_wp2
      go_ret2
      exact ⟨rfl, rfl⟩
    · obtain ⟨m, hm1⟩ : ∃ m, 4 - k = m + 1 := ⟨3 - k, by omega⟩
      have hv2 : v < 262144 := Nat.lt_of_lt_of_le hv1 (Nat.pow_le_pow_right (by omega) (show k ≤ 3 by omega))
      by_cases a : i + k < s.size
      · obtain ⟨b, e1⟩ : ∃ b, (s[i + k]'a).toNat = b := ⟨_, rfl⟩
        have hb : b < 256 := e1 ▸ u8lt _
        have hg : (s.get! (i + k)).toNat = b := by rw [get!_at s _ a]; exact e1
        have hm2 := u8_63 b hb
        have hor := i32_or_shift v (b % 64) 6 (by omega) (by omega) (by omega)
        have hsum : v * 64 + b % 64 < 64 ^ (k + 1) := by
          rw [Nat.pow_succ]; have := Nat.mod_lt b (show 0 < 64 by omega); omega
        have HS := Lib.hid hsum
        have HG := Lib.hid hg
        have HM := Lib.hid hm1
        have hc := Nat.mod_lt b (show 0 < 64 by omega)
        clear hsum hg hm1 hv1
        rcases (show k = 1 ∨ 2 ≤ k by omega) with rfl | hk3
        · by_cases hbad : 144 ≤ b ∧ b ≤ 191
          · obtain ⟨hb1, hb2⟩ := hbad
            have HN : Hid (zl s i 3 144 191 (4 - (1 + 1)) (1 + 1) (v * 64 + b % 64) = F) := Lib.hid (by
              have := HD.out
              rw [HM.out, zl_go a (by rw [HG.out]; simp [zbad]; omega), HG.out] at this
              rwa [show 4 - (1 + 1) = m by have := HM.out; omega])
            generalize b % 64 = c at hm2 hor HN hc HS
            go_wp2
            exact ⟨⟨2, v * 64 + c, rfl, by simp, by omega, by omega, HS.out, HN⟩, by decide⟩
          · have hD := HD.out
            rw [HM.out, zl_bad a (by rw [HG.out]; simp [zbad]; omega)] at hD
            subst hD
            rcases (show b < 144 ∨ (144 ≤ b ∧ 191 < b) by omega) with hb1 | ⟨hb1, hb2⟩
            · clear hbad
              go_wp2
              go_ret2
              exact ⟨rfl, rfl⟩
            · clear hbad
              go_wp2
              go_ret2
              exact ⟨rfl, rfl⟩
        · have hk4 : ((k : Int) == 1) = false := by simp; omega
          by_cases hbad : 128 ≤ b ∧ b ≤ 191
          · obtain ⟨hb1, hb2⟩ := hbad
            have HN : Hid (zl s i 3 144 191 (4 - (k + 1)) (k + 1) (v * 64 + b % 64) = F) := Lib.hid (by
              have := HD.out
              rw [HM.out, zl_go a (by rw [HG.out]; simp [zbad, show ¬ k = 1 by omega]; omega), HG.out] at this
              rwa [show 4 - (k + 1) = m by have := HM.out; omega])
            generalize b % 64 = c at hm2 hor HN hc HS
            go_wp2
            go_round
            case rel => exact ⟨k + 1, v * 64 + c, by simp, by simp, by omega, by omega, HS.out, HN⟩
            case measure => show 4 - ((k : Int) + 1).toNat < 4 - (k : Int).toNat; omega
          · have hD := HD.out
            rw [HM.out, zl_bad a (by rw [HG.out]; simp [zbad, show ¬ k = 1 by omega]; omega)] at hD
            subst hD
            rcases (show b < 128 ∨ (128 ≤ b ∧ 191 < b) by omega) with hb1 | ⟨hb1, hb2⟩
            · clear hbad
              go_wp2
              go_ret2
              exact ⟨rfl, rfl⟩
            · clear hbad
              go_wp2
              go_ret2
              exact ⟨rfl, rfl⟩
      · have hD := HD.out
        rw [hm1, zl_out (by omega)] at hD
        subst hD
        go_wp2
        go_ret2
        exact ⟨rfl, rfl⟩

set_option maxHeartbeats 2000000 in
theorem zz_f4 (s : ByteArray) (i b0 : Nat) (w : World) (h : i < s.size) (hs : s.size ≤ 1048576) (e0 : (s[i]'h).toNat = b0) (h0 : 244 ≤ b0) (h1 : b0 ≤ 244) :
    Calls Tryd.prog 16 #[.string s, .int .i64 i] w fun e w' => e = .returned (.tuple #[.int .i32 (zl s i 3 128 143 3 1 (b0 % 8)).1, .int .i64 (zl s i 3 128 143 3 1 (b0 % 8)).2]) ∧ w' = w := by
  have hm := u8_7 b0 (by omega)
  have hv := Nat.mod_lt b0 (show 0 < 8 by omega)
  generalize b0 % 8 = v0 at hm hv
  have t0 : decide ((b0 : Int) < 224) = false := by simp; omega
  have t1 : decide ((b0 : Int) < 240) = false := by simp; omega
  have t2 : ((b0 : Int) == 240) = false := by simp; omega
  have t3 : ((b0 : Int) == 244) = true := by simp; omega
  generalize hF : zl s i 3 128 143 3 1 v0 = F
  have HF := Lib.hid hF
  clear hF
  go_enter Tryd.func16, Tryd.ntmps16
  go_wp2
  go_loop [4, 5, 11, 12] (fun _ _ x y => ∃ (k v : Nat), y = .int .i64 k ∧ x = .int .i32 v ∧ 1 ≤ k ∧ k ≤ 4 ∧ v < 64 ^ k ∧ Hid (zl s i 3 128 143 (4 - k) k v = F)) (fun _ _ _ y => 4 - (intOf y).toNat)
  case atStart => exact ⟨1, v0, rfl, rfl, by omega, by omega, by omega, HF⟩
  case round =>
    obtain ⟨k, v, rfl, rfl, hk1, hk2, hv1, HD⟩ := hrel
    rcases (show k = 4 ∨ k < 4 by omega) with rfl | hn
    · have hD := HD.out
      rw [zl] at hD
      subst hD
      go_wp2
      go_ret2
      exact ⟨rfl, rfl⟩
    · obtain ⟨m, hm1⟩ : ∃ m, 4 - k = m + 1 := ⟨3 - k, by omega⟩
      have hv2 : v < 262144 := Nat.lt_of_lt_of_le hv1 (Nat.pow_le_pow_right (by omega) (show k ≤ 3 by omega))
      by_cases a : i + k < s.size
      · obtain ⟨b, e1⟩ : ∃ b, (s[i + k]'a).toNat = b := ⟨_, rfl⟩
        have hb : b < 256 := e1 ▸ u8lt _
        have hg : (s.get! (i + k)).toNat = b := by rw [get!_at s _ a]; exact e1
        have hm2 := u8_63 b hb
        have hor := i32_or_shift v (b % 64) 6 (by omega) (by omega) (by omega)
        have hsum : v * 64 + b % 64 < 64 ^ (k + 1) := by
          rw [Nat.pow_succ]; have := Nat.mod_lt b (show 0 < 64 by omega); omega
        have HS := Lib.hid hsum
        have HG := Lib.hid hg
        have HM := Lib.hid hm1
        have hc := Nat.mod_lt b (show 0 < 64 by omega)
        clear hsum hg hm1 hv1
        rcases (show k = 1 ∨ 2 ≤ k by omega) with rfl | hk3
        · by_cases hbad : 128 ≤ b ∧ b ≤ 143
          · obtain ⟨hb1, hb2⟩ := hbad
            have HN : Hid (zl s i 3 128 143 (4 - (1 + 1)) (1 + 1) (v * 64 + b % 64) = F) := Lib.hid (by
              have := HD.out
              rw [HM.out, zl_go a (by rw [HG.out]; simp [zbad]; omega), HG.out] at this
              rwa [show 4 - (1 + 1) = m by have := HM.out; omega])
            generalize b % 64 = c at hm2 hor HN hc HS
            go_wp2
            exact ⟨⟨2, v * 64 + c, rfl, by simp, by omega, by omega, HS.out, HN⟩, by decide⟩
          · have hD := HD.out
            rw [HM.out, zl_bad a (by rw [HG.out]; simp [zbad]; omega)] at hD
            subst hD
            rcases (show b < 128 ∨ (128 ≤ b ∧ 143 < b) by omega) with hb1 | ⟨hb1, hb2⟩
            · clear hbad
              go_wp2
              go_ret2
              exact ⟨rfl, rfl⟩
            · clear hbad
              go_wp2
              go_ret2
              exact ⟨rfl, rfl⟩
        · have hk4 : ((k : Int) == 1) = false := by simp; omega
          by_cases hbad : 128 ≤ b ∧ b ≤ 191
          · obtain ⟨hb1, hb2⟩ := hbad
            have HN : Hid (zl s i 3 128 143 (4 - (k + 1)) (k + 1) (v * 64 + b % 64) = F) := Lib.hid (by
              have := HD.out
              rw [HM.out, zl_go a (by rw [HG.out]; simp [zbad, show ¬ k = 1 by omega]; omega), HG.out] at this
              rwa [show 4 - (k + 1) = m by have := HM.out; omega])
            generalize b % 64 = c at hm2 hor HN hc HS
            go_wp2
            go_round
            case rel => exact ⟨k + 1, v * 64 + c, by simp, by simp, by omega, by omega, HS.out, HN⟩
            case measure => show 4 - ((k : Int) + 1).toNat < 4 - (k : Int).toNat; omega
          · have hD := HD.out
            rw [HM.out, zl_bad a (by rw [HG.out]; simp [zbad, show ¬ k = 1 by omega]; omega)] at hD
            subst hD
            rcases (show b < 128 ∨ (128 ≤ b ∧ 191 < b) by omega) with hb1 | ⟨hb1, hb2⟩
            · clear hbad
              go_wp2
              go_ret2
              exact ⟨rfl, rfl⟩
            · clear hbad
              go_wp2
              go_ret2
              exact ⟨rfl, rfl⟩
      · have hD := HD.out
        rw [hm1, zl_out (by omega)] at hD
        subst hD
        go_wp2
        go_ret2
        exact ⟨rfl, rfl⟩

set_option maxHeartbeats 2000000 in
theorem zz_4 (s : ByteArray) (i b0 : Nat) (w : World) (h : i < s.size) (hs : s.size ≤ 1048576) (e0 : (s[i]'h).toNat = b0) (h0 : 241 ≤ b0) (h1 : b0 < 244) :
    Calls Tryd.prog 16 #[.string s, .int .i64 i] w fun e w' => e = .returned (.tuple #[.int .i32 (zl s i 3 128 191 3 1 (b0 % 8)).1, .int .i64 (zl s i 3 128 191 3 1 (b0 % 8)).2]) ∧ w' = w := by
  have hm := u8_7 b0 (by omega)
  have hv := Nat.mod_lt b0 (show 0 < 8 by omega)
  generalize b0 % 8 = v0 at hm hv
  have t0 : decide ((b0 : Int) < 224) = false := by simp; omega
  have t1 : decide ((b0 : Int) < 240) = false := by simp; omega
  have t2 : ((b0 : Int) == 240) = false := by simp; omega
  have t3 : ((b0 : Int) == 244) = false := by simp; omega
  generalize hF : zl s i 3 128 191 3 1 v0 = F
  have HF := Lib.hid hF
  clear hF
  go_enter Tryd.func16, Tryd.ntmps16
  go_wp2
  go_loop [4, 5, 11, 12] (fun _ _ x y => ∃ (k v : Nat), y = .int .i64 k ∧ x = .int .i32 v ∧ 1 ≤ k ∧ k ≤ 4 ∧ v < 64 ^ k ∧ Hid (zl s i 3 128 191 (4 - k) k v = F)) (fun _ _ _ y => 4 - (intOf y).toNat)
  case atStart => exact ⟨1, v0, rfl, rfl, by omega, by omega, by omega, HF⟩
  case round =>
    obtain ⟨k, v, rfl, rfl, hk1, hk2, hv1, HD⟩ := hrel
    rcases (show k = 4 ∨ k < 4 by omega) with rfl | hn
    · have hD := HD.out
      rw [zl] at hD
      subst hD
      go_wp2
      go_ret2
      exact ⟨rfl, rfl⟩
    · obtain ⟨m, hm1⟩ : ∃ m, 4 - k = m + 1 := ⟨3 - k, by omega⟩
      have hv2 : v < 262144 := Nat.lt_of_lt_of_le hv1 (Nat.pow_le_pow_right (by omega) (show k ≤ 3 by omega))
      by_cases a : i + k < s.size
      · obtain ⟨b, e1⟩ : ∃ b, (s[i + k]'a).toNat = b := ⟨_, rfl⟩
        have hb : b < 256 := e1 ▸ u8lt _
        have hg : (s.get! (i + k)).toNat = b := by rw [get!_at s _ a]; exact e1
        have hm2 := u8_63 b hb
        have hor := i32_or_shift v (b % 64) 6 (by omega) (by omega) (by omega)
        have hsum : v * 64 + b % 64 < 64 ^ (k + 1) := by
          rw [Nat.pow_succ]; have := Nat.mod_lt b (show 0 < 64 by omega); omega
        have HS := Lib.hid hsum
        have HG := Lib.hid hg
        have HM := Lib.hid hm1
        have hc := Nat.mod_lt b (show 0 < 64 by omega)
        clear hsum hg hm1 hv1
        rcases (show k = 1 ∨ 2 ≤ k by omega) with rfl | hk3
        · by_cases hbad : 128 ≤ b ∧ b ≤ 191
          · obtain ⟨hb1, hb2⟩ := hbad
            have HN : Hid (zl s i 3 128 191 (4 - (1 + 1)) (1 + 1) (v * 64 + b % 64) = F) := Lib.hid (by
              have := HD.out
              rw [HM.out, zl_go a (by rw [HG.out]; simp [zbad]; omega), HG.out] at this
              rwa [show 4 - (1 + 1) = m by have := HM.out; omega])
            generalize b % 64 = c at hm2 hor HN hc HS
            go_wp2
            exact ⟨⟨2, v * 64 + c, rfl, by simp, by omega, by omega, HS.out, HN⟩, by decide⟩
          · have hD := HD.out
            rw [HM.out, zl_bad a (by rw [HG.out]; simp [zbad]; omega)] at hD
            subst hD
            rcases (show b < 128 ∨ (128 ≤ b ∧ 191 < b) by omega) with hb1 | ⟨hb1, hb2⟩
            · clear hbad
              go_wp2
              go_ret2
              exact ⟨rfl, rfl⟩
            · clear hbad
              go_wp2
              go_ret2
              exact ⟨rfl, rfl⟩
        · have hk4 : ((k : Int) == 1) = false := by simp; omega
          by_cases hbad : 128 ≤ b ∧ b ≤ 191
          · obtain ⟨hb1, hb2⟩ := hbad
            have HN : Hid (zl s i 3 128 191 (4 - (k + 1)) (k + 1) (v * 64 + b % 64) = F) := Lib.hid (by
              have := HD.out
              rw [HM.out, zl_go a (by rw [HG.out]; simp [zbad, show ¬ k = 1 by omega]; omega), HG.out] at this
              rwa [show 4 - (k + 1) = m by have := HM.out; omega])
            generalize b % 64 = c at hm2 hor HN hc HS
            go_wp2
            go_round
            case rel => exact ⟨k + 1, v * 64 + c, by simp, by simp, by omega, by omega, HS.out, HN⟩
            case measure => show 4 - ((k : Int) + 1).toNat < 4 - (k : Int).toNat; omega
          · have hD := HD.out
            rw [HM.out, zl_bad a (by rw [HG.out]; simp [zbad, show ¬ k = 1 by omega]; omega)] at hD
            subst hD
            rcases (show b < 128 ∨ (128 ≤ b ∧ 191 < b) by omega) with hb1 | ⟨hb1, hb2⟩
            · clear hbad
              go_wp2
              go_ret2
              exact ⟨rfl, rfl⟩
            · clear hbad
              go_wp2
              go_ret2
              exact ⟨rfl, rfl⟩
      · have hD := HD.out
        rw [hm1, zl_out (by omega)] at hD
        subst hD
        go_wp2
        go_ret2
        exact ⟨rfl, rfl⟩

theorem zz_a (s : ByteArray) (i b0 : Nat) (w : World) (h : i < s.size) (hs : s.size ≤ 1048576) (e0 : (s[i]'h).toNat = b0) (h0 : b0 < 128) :
    Calls Tryd.prog 16 #[.string s, .int .i64 i] w fun e w' => e = .returned (.tuple #[.int .i32 b0, .int .i64 1]) ∧ w' = w := by
  go_enter Tryd.func16, Tryd.ntmps16
  go_wp2
  go_ret2
  exact ⟨rfl, rfl⟩
theorem zz_lo (s : ByteArray) (i b0 : Nat) (w : World) (h : i < s.size) (hs : s.size ≤ 1048576) (e0 : (s[i]'h).toNat = b0) (h0 : 128 ≤ b0) (h1 : b0 < 194) :
    Calls Tryd.prog 16 #[.string s, .int .i64 i] w fun e w' => e = .returned (.tuple #[.int .i32 65533, .int .i64 1]) ∧ w' = w := by
  go_enter Tryd.func16, Tryd.ntmps16
  go_wp2
  go_ret2
  exact ⟨rfl, rfl⟩
theorem zz_hi (s : ByteArray) (i b0 : Nat) (w : World) (h : i < s.size) (hs : s.size ≤ 1048576) (e0 : (s[i]'h).toNat = b0) (h0 : 244 < b0) (h1 : b0 < 256) :
    Calls Tryd.prog 16 #[.string s, .int .i64 i] w fun e w' => e = .returned (.tuple #[.int .i32 65533, .int .i64 1]) ∧ w' = w := by
  go_enter Tryd.func16, Tryd.ntmps16
  go_wp2
  go_ret2
  exact ⟨rfl, rfl⟩
/-- the law's decoder is the model's -/
theorem zz_any (s : ByteArray) (i : Nat) (w : World) (h : i < s.size) (hs : s.size ≤ 1048576) :
    Calls Tryd.prog 16 #[.string s, .int .i64 i] w fun e w' => e = .returned (.tuple #[.int .i32 (Utf8.decode s i).1, .int .i64 (Utf8.decode s i).2]) ∧ w' = w := by
  have hg : (s.get! i).toNat = (s[i]'h).toNat := by rw [get!_at s _ h]
  have hb := u8lt (s[i]'h)
  have D := Lib.decode_at s i
  rw [hg] at D
  have E : ∀ {a b : Nat}, Utf8.decode s i = (a, b) → Calls Tryd.prog 16 #[.string s, .int .i64 i] w (fun e w' => e = .returned (.tuple #[.int .i32 a, .int .i64 b]) ∧ w' = w) → Calls Tryd.prog 16 #[.string s, .int .i64 i] w fun e w' => e = .returned (.tuple #[.int .i32 (Utf8.decode s i).1, .int .i64 (Utf8.decode s i).2]) ∧ w' = w := by
    intro a b h1 h2; rw [h1]; exact h2
  by_cases c1 : (s[i]'h).toNat < 128
  · exact E (D.trans (dec_a _ _ _ _ _ c1)) (zz_a s i _ w h hs rfl c1)
  by_cases c2 : (s[i]'h).toNat < 194
  · exact E (D.trans (dec_lo _ _ _ _ _ (by omega) c2)) (zz_lo s i _ w h hs rfl (by omega) c2)
  by_cases c3 : 244 < (s[i]'h).toNat
  · exact E (D.trans (dec_hi _ _ _ _ _ (by omega))) (zz_hi s i _ w h hs rfl c3 hb)
  by_cases c4 : (s[i]'h).toNat < 224
  · have := zz_2 s i _ w h hs rfl (by omega) c4
    rw [← hg, zl_2 s i h (by omega) (by omega)] at this
    exact this
  by_cases c5 : (s[i]'h).toNat < 240
  · have Z := zl_3 s i h (by omega) (by omega)
    by_cases d1 : (s[i]'h).toNat = 224
    · rw [hg, show lo3 (s[i]'h).toNat = 160 by rw [d1]; rfl, show hi3 (s[i]'h).toNat = 191 by rw [d1]; rfl] at Z
      have := zz_e0 s i _ w h hs rfl (by omega) (by omega)
      rwa [Z] at this
    by_cases d2 : (s[i]'h).toNat = 237
    · rw [hg, show lo3 (s[i]'h).toNat = 128 by rw [d2]; rfl, show hi3 (s[i]'h).toNat = 159 by rw [d2]; rfl] at Z
      have := zz_ed s i _ w h hs rfl (by omega) (by omega)
      rwa [Z] at this
    · rw [hg, show lo3 (s[i]'h).toNat = 128 by unfold lo3; rw [if_neg d1], show hi3 (s[i]'h).toNat = 191 by unfold hi3; rw [if_neg d2]] at Z
      have := zz_3 s i _ w h hs rfl (by omega) (by omega) d2
      rwa [Z] at this
  · have Z := zl_4 s i h (by omega) (by omega)
    by_cases d1 : (s[i]'h).toNat = 240
    · rw [hg, show lo4 (s[i]'h).toNat = 144 by rw [d1]; rfl, show hi4 (s[i]'h).toNat = 191 by rw [d1]; rfl] at Z
      have := zz_f0 s i _ w h hs rfl (by omega) (by omega)
      rwa [Z] at this
    by_cases d2 : (s[i]'h).toNat = 244
    · rw [hg, show lo4 (s[i]'h).toNat = 128 by rw [d2]; rfl, show hi4 (s[i]'h).toNat = 143 by rw [d2]; rfl] at Z
      have := zz_f4 s i _ w h hs rfl (by omega) (by omega)
      rwa [Z] at this
    · rw [hg, show lo4 (s[i]'h).toNat = 128 by unfold lo4; rw [if_neg d1], show hi4 (s[i]'h).toNat = 191 by unfold hi4; rw [if_neg d2]] at Z
      have := zz_4 s i _ w h hs rfl (by omega) (by omega)
      rwa [Z] at this

end Go.Proofs.YtlbpplkanogkgaaDoor
