/-
  The law's check as a whole: zzBytes, zzfitAccUses. No statement of the seat is proved here.
-/
import Derived.Test.YtnfjfjcdehohhaaDoorZf
import Derived.Deep.CutBlock
namespace Go.Proofs.YtnfjfjcdehohhaaDoor
open Go.RowKit
set_option linter.unusedVariables false
set_option linter.unusedSimpArgs false

theorem zb_any (a0 a1 a2 a3 : Option Addr) (l0 l1 l2 l3 p0 p1 p2 p3 : Nat) (st c0 c1 c2 c3 : Int) (w : World) :
    Calls Tryd.prog 4 #[.slice a0 l0 p0, .slice a1 l1 p1, .slice a2 l2 p2, .slice a3 l3 p3, .int .u32 st, .int .u32 c0, .int .u32 c1, .int .u32 c2, .int .u32 c3] w fun e w' => SomeBool e ∧ w' = w := by
  go_enter Tryd.func4, Tryd.ntmps4
  go_wp2
  all_goals go_ret
  all_goals exact ⟨⟨_, rfl⟩, rfl⟩
/-- what the check tells -/
structure Fit (l0 l1 l2 l3 : Nat) (ks ns us : List Int) (c0 c1 c2 c3 : Int) : Prop where
  n1 : l1 = l0
  n3 : l3 = l2
  le : l0 ≤ 65536
  le2 : l2 ≤ 65536
  uses : ∀ k, k < l2 → nth us k < (l0 : Int)
  c : c0 ≤ 65536 ∧ c1 ≤ 65536 ∧ c2 ≤ 65536 ∧ c3 ≤ 65536
  nest : NestOk ks ns c0 c1 l0
set_option maxHeartbeats 2000000 in
set_option maxRecDepth 100000 in
theorem fit_any (a0 a1 a2 a3 : Option Addr) (l0 l1 l2 l3 p0 p1 p2 p3 : Nat) (st c0 c1 c2 c3 : Int) (ks ns us : List Int) (hk : ks.length = l0) (hs : ns.length = l1) (hu : us.length = l2) (hk8 : B8 ks) (hs32 : B32 ns) (hu32 : B32 us)
    (w : World) (hi0 : In .u8 w a0 ks) (hi1 : In .u32 w a1 ns) (hi2 : In .u32 w a2 us) :
    Calls Tryd.prog 5 #[.slice a0 l0 p0, .slice a1 l1 p1, .slice a2 l2 p2, .slice a3 l3 p3, .int .u32 st, .int .u32 c0, .int .u32 c1, .int .u32 c2, .int .u32 c3] w (ChkD (Fit l0 l1 l2 l3 ks ns us c0 c1 c2 c3) w) := by
  have H := Lib.hid (And.intro hi0 (And.intro hi1 (And.intro hi2 (And.intro hk8 (And.intro hs32 hu32)))))
  clear hi0 hi1 hi2 hk8 hs32 hu32
  by_cases h0 : (l0 : Int) > 65536
  · have h1 : decide ((65536 : Int) < (l0 : Int)) = true := by simp; omega
    go_enter Tryd.func5, Tryd.ntmps5
    go_wp2_with fail
    go_ret
    exact ⟨⟨0, rfl⟩, .inl rfl⟩
  have g0 : decide ((65536 : Int) < (l0 : Int)) = false := by simp; omega
  by_cases h1 : (l1 : Int) > 65536
  · have h2 : decide ((65536 : Int) < (l1 : Int)) = true := by simp; omega
    go_enter Tryd.func5, Tryd.ntmps5
    go_wp2_with fail
    go_ret
    exact ⟨⟨0, rfl⟩, .inl rfl⟩
  have g1 : decide ((65536 : Int) < (l1 : Int)) = false := by simp; omega
  by_cases h2 : (l2 : Int) > 65536
  · have h3 : decide ((65536 : Int) < (l2 : Int)) = true := by simp; omega
    go_enter Tryd.func5, Tryd.ntmps5
    go_wp2_with fail
    go_ret
    exact ⟨⟨0, rfl⟩, .inl rfl⟩
  have g2 : decide ((65536 : Int) < (l2 : Int)) = false := by simp; omega
  by_cases h3 : (l3 : Int) > 65536
  · have h4 : decide ((65536 : Int) < (l3 : Int)) = true := by simp; omega
    go_enter Tryd.func5, Tryd.ntmps5
    go_wp2_with fail
    go_ret
    exact ⟨⟨0, rfl⟩, .inl rfl⟩
  have g3 : decide ((65536 : Int) < (l3 : Int)) = false := by simp; omega
  have HC := Lib.hid (counts_any c0 c1 c2 c3 w)
  have hwn : IntKind.u32.wrap (l0 : Int) = l0 := by rw [IntKind.wrap_u32]; omega
  have HWN := Lib.hid hwn
  clear hwn
  by_cases h4 : (l0 : Int) + 8 * (l1 : Int) + 8 * (l2 : Int) + 8 * (l3 : Int) > 1048576
  · have h5 : decide ((1048576 : Int) < (l0 : Int) + 8 * (l1 : Int) + 8 * (l2 : Int) + 8 * (l3 : Int)) = true := by simp; omega
    go_enter Tryd.func5, Tryd.ntmps5
    go_wp2_with fail
    go_ret
    exact ⟨⟨0, rfl⟩, .inl rfl⟩
  have h5 : decide ((1048576 : Int) < (l0 : Int) + 8 * (l1 : Int) + 8 * (l2 : Int) + 8 * (l3 : Int)) = false := by simp; omega
  go_enter Tryd.func5, Tryd.ntmps5
  go_upto_if 59 with (go_at_call 15; refine HC.out.mono ?_; rintro e w3 ⟨rfl, hcs⟩; have HCS := Lib.hid hcs; clear hcs; obtain ⟨bb, rfl⟩ : ∃ bb, e = .returned (.bool bb) := by (rcases HCS.out with h | h; exact ⟨_, h⟩; exact ⟨_, h.1⟩))
  cases bb
  · go_wp2_with fail
    go_ret
    exact ⟨⟨0, rfl⟩, .inl rfl⟩
  have HCF : Hid (c0 ≤ 65536 ∧ c1 ≤ 65536 ∧ c2 ≤ 65536 ∧ c3 ≤ 65536) := by
    rcases HCS.out with h | h
    · injection h with h; injection h with h; cases h
    · exact Lib.hid h.2
  by_cases k1 : (l1 : Int) = (l0 : Int)
  rotate_left
  · have h6 : ((l1 : Int) == (l0 : Int)) = false := by simp; omega
    go_wp2_with fail
    all_goals go_ret
    all_goals exact ⟨⟨0, rfl⟩, .inl rfl⟩
  have h6 : ((l1 : Int) == (l0 : Int)) = true := by simp; omega
  by_cases k3 : (l3 : Int) = (l2 : Int)
  rotate_left
  · have h7 : ((l3 : Int) == (l2 : Int)) = false := by simp; omega
    clear k1
    go_wp2_with fail
    all_goals go_ret
    all_goals exact ⟨⟨0, rfl⟩, .inl rfl⟩
  have h7 : ((l3 : Int) == (l2 : Int)) = true := by simp; omega
  have e1 : l1 = l0 := by omega
  have e3 : l3 = l2 := by omega
  subst e1 e3
  have HL := Lib.hid (And.intro (show l1 ≤ 65536 by omega) (show l3 ≤ 65536 by omega))
  have HN := Lib.hid (nest_any a0 l1 p0 ks hk H.out.2.2.2.1 a1 p1 ns hs H.out.2.2.2.2.1 c0 c1 c2 c3 HL.out.1 w3 H.out.1 H.out.2.1)
  clear k1 k3 h4 h5
  go_wp2_with fail
  go_loopg [20] l3 (fun k a wr => ∃ i : Nat, a = .int .i64 (i : Int) ∧ i ≤ l3 ∧ l3 - i ≤ k ∧ w3 = wr ∧ Hid (∀ k, k < i → nth us k < (l1 : Int)))
  case atStart => exact ⟨0, rfl, by omega, by omega, rfl, Lib.hid (fun i hi => by omega)⟩
  case round =>
    obtain ⟨i, rfl, hi, hk', rfl, HT⟩ := hrel
    rcases (show l3 = i ∨ i < l3 by omega) with he | hlt
    · obtain rfl := he
      go_wp2_with (go_at_call 16; refine HN.out.mono ?_; rintro e w4 ⟨⟨d, rfl⟩, hcs⟩; have HCT := Lib.hid hcs; clear hcs; obtain ⟨bb, rfl⟩ : ∃ bb, e = .returned (.bool bb) := by (rcases HCT.out with h | h; exact ⟨_, h⟩; exact ⟨_, h.1⟩))
      go_ret
      refine ⟨⟨d, rfl⟩, ?_⟩
      rcases HCT.out with h | h
      · exact .inl h
      · exact .inr ⟨h.1, rfl, rfl, HL.out.1, HL.out.2, HT.out, HCF.out, h.2⟩
    · obtain ⟨b, off, rfl, hblt, hc⟩ := H.out.2.2.1.at (i := i) (by omega)
      have hwn := HWN.out
      obtain ⟨z, hz⟩ : ∃ z, nth us i = z := ⟨_, rfl⟩
      rw [hz] at hc
      have HZ := Lib.hid hz
      clear hz
      by_cases h0 : (l1 : Int) ≤ z
      · have h1 : decide ((l1 : Int) ≤ z) = true := by simp [h0]
        go_wp2_with fail
        go_ret
        exact ⟨⟨0, rfl⟩, .inl rfl⟩
      · have h1 : decide ((l1 : Int) ≤ z) = false := by simp; omega
        have HZL := Lib.hid (show z < (l1 : Int) by omega)
        clear h0
        go_wp2_with fail
        clear hwn
        go_roundg (gk - 1)
        case measure => omega
        case rel =>
          refine ⟨i + 1, by go_num, by omega, by omega, rfl, Lib.hid (fun x hx => ?_)⟩
          rcases (show x < i ∨ x = i by omega) with h | rfl
          · exact HT.out x h
          · rw [HZ.out]; exact HZL.out
end Go.Proofs.YtnfjfjcdehohhaaDoor
