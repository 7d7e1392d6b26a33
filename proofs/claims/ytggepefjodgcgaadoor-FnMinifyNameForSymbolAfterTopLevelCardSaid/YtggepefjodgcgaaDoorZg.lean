/-
  The law's check as a whole: zzfitNameFresh, zzfitNameTop. No statement of the seat is proved here.
-/
import Derived.Test.YtggepefjodgcgaaDoorZf
import Derived.Deep.CutBlock
namespace Go.Proofs.YtggepefjodgcgaaDoor
open Go.RowKit
set_option linter.unusedVariables false
set_option linter.unusedSimpArgs false

/-- what the check tells -/
structure Fit (l0 l1 l2 l3 : Nat) (ks ns : List Int) (c0 c1 c2 c3 q : Int) : Prop where
  n0 : l0 = l1
  n2 : l2 = l1
  n3 : l3 = l1
  le : l1 ≤ 65536
  q : q < (l1 : Int)
  c : c0 ≤ 65536 ∧ c1 ≤ 65536 ∧ c2 ≤ 65536 ∧ c3 ≤ 65536
  nest : NestOk ks ns c0 c1 l1
set_option maxHeartbeats 2000000 in
set_option maxRecDepth 100000 in
theorem fresh_any (a0 a1 a2 a3 : Option Addr) (l0 l1 l2 l3 p0 p1 p2 p3 : Nat) (c0 c1 c2 c3 q : Int) (ts : List ByteArray) (ks ls ns : List Int) (hn : ts.length = l0) (hk : ks.length = l1) (hs : ns.length = l3) (hk8 : B8 ks) (hs32 : B32 ns)
    (w : World) (hin : InS w a0 ts) (hi1 : In .u8 w a1 ks) (hi3 : In .u32 w a3 ns) :
    Calls Tryd.prog 17 #[.slice a0 l0 p0, .slice a1 l1 p1, .slice a2 l2 p2, .slice a3 l3 p3, .int .u32 c0, .int .u32 c1, .int .u32 c2, .int .u32 c3, .int .u32 q] w (ChkD (Fit l0 l1 l2 l3 ks ns c0 c1 c2 c3 q) w) := by
  have H := Lib.hid (And.intro hin (And.intro hi1 (And.intro hi3 (And.intro hk8 hs32))))
  clear hin hi1 hi3 hk8 hs32
  by_cases h0 : (l0 : Int) > 65536
  · have h1 : decide ((65536 : Int) < (l0 : Int)) = true := by simp; omega
    go_enter Tryd.func17, Tryd.ntmps17
    go_wp2_with fail
    go_ret
    exact ⟨⟨0, rfl⟩, .inl rfl⟩
  have g0 : decide ((65536 : Int) < (l0 : Int)) = false := by simp; omega
  by_cases h1 : (l1 : Int) > 65536
  · have h2 : decide ((65536 : Int) < (l1 : Int)) = true := by simp; omega
    go_enter Tryd.func17, Tryd.ntmps17
    go_wp2_with fail
    go_ret
    exact ⟨⟨0, rfl⟩, .inl rfl⟩
  have g1 : decide ((65536 : Int) < (l1 : Int)) = false := by simp; omega
  by_cases h2 : (l2 : Int) > 65536
  · have h3 : decide ((65536 : Int) < (l2 : Int)) = true := by simp; omega
    go_enter Tryd.func17, Tryd.ntmps17
    go_wp2_with fail
    go_ret
    exact ⟨⟨0, rfl⟩, .inl rfl⟩
  have g2 : decide ((65536 : Int) < (l2 : Int)) = false := by simp; omega
  by_cases h3 : (l3 : Int) > 65536
  · have h4 : decide ((65536 : Int) < (l3 : Int)) = true := by simp; omega
    go_enter Tryd.func17, Tryd.ntmps17
    go_wp2_with fail
    go_ret
    exact ⟨⟨0, rfl⟩, .inl rfl⟩
  have g3 : decide ((65536 : Int) < (l3 : Int)) = false := by simp; omega
  have hb := Lib.hid (sb_any a0 l0 p0 ts hn (by omega) w H.out.1)
  have HC := Lib.hid (counts_any c0 c1 c2 c3 w)
  have hwn : IntKind.u32.wrap (l1 : Int) = l1 := by rw [IntKind.wrap_u32]; omega
  go_enter Tryd.func17, Tryd.ntmps17
  go_upto_if 51 with (go_at_call 18; refine hb.out.mono ?_; rintro e w2 ⟨⟨x, rfl⟩, rfl⟩)
  generalize wrap64 (wrap64 (wrap64 (x + (l1 : Int)) + 8 * (l2 : Int)) + 8 * (l3 : Int)) = y
  by_cases h4 : y > 1048576
  · have h5 : decide ((1048576 : Int) < y) = true := by simp; omega
    go_wp2_with fail
    go_ret
    exact ⟨⟨0, rfl⟩, .inl rfl⟩
  have h5 : decide ((1048576 : Int) < y) = false := by simp; omega
  go_upto_if 57 with (go_at_call 29; refine HC.out.mono ?_; rintro e w3 ⟨rfl, hcs⟩; have HCS := Lib.hid hcs; clear hcs; obtain ⟨bb, rfl⟩ : ∃ bb, e = .returned (.bool bb) := by (rcases HCS.out with h | h; exact ⟨_, h⟩; exact ⟨_, h.1⟩))
  cases bb
  · go_wp2_with fail
    go_ret
    exact ⟨⟨0, rfl⟩, .inl rfl⟩
  have HCF : Hid (c0 ≤ 65536 ∧ c1 ≤ 65536 ∧ c2 ≤ 65536 ∧ c3 ≤ 65536) := by
    rcases HCS.out with h | h
    · injection h with h; injection h with h; cases h
    · exact Lib.hid h.2
  by_cases k0 : (l0 : Int) = (l1 : Int)
  rotate_left
  · have h6 : ((l0 : Int) == (l1 : Int)) = false := by simp; omega
    clear hwn
    go_wp2_with fail
    all_goals go_ret
    all_goals exact ⟨⟨0, rfl⟩, .inl rfl⟩
  have h6 : ((l0 : Int) == (l1 : Int)) = true := by simp; omega
  by_cases k2 : (l2 : Int) = (l1 : Int)
  rotate_left
  · have h7 : ((l2 : Int) == (l1 : Int)) = false := by simp; omega
    clear hwn k0
    go_wp2_with fail
    all_goals go_ret
    all_goals exact ⟨⟨0, rfl⟩, .inl rfl⟩
  have h7 : ((l2 : Int) == (l1 : Int)) = true := by simp; omega
  by_cases k3 : (l3 : Int) = (l1 : Int)
  rotate_left
  · have h8 : ((l3 : Int) == (l1 : Int)) = false := by simp; omega
    clear hwn k0 k2
    go_wp2_with fail
    all_goals go_ret
    all_goals exact ⟨⟨0, rfl⟩, .inl rfl⟩
  have h8 : ((l3 : Int) == (l1 : Int)) = true := by simp; omega
  have e0 : l0 = l1 := by omega
  have e2 : l2 = l1 := by omega
  have e3 : l3 = l1 := by omega
  subst e0 e2 e3
  by_cases k4 : (l3 : Int) ≤ q
  · have h9 : decide ((l3 : Int) ≤ q) = true := by simp [k4]
    clear k0 k2 k3
    go_wp2_with fail
    go_ret
    exact ⟨⟨0, rfl⟩, .inl rfl⟩
  have h9 : decide ((l3 : Int) ≤ q) = false := by simp; omega
  have HN := Lib.hid (nest_any a1 l3 p1 ks hk H.out.2.2.2.1 a3 p3 ns hs H.out.2.2.2.2 c0 c1 c2 c3 (by omega) w3 H.out.2.1 H.out.2.2.1)
  have HQ := Lib.hid (show q < (l3 : Int) by omega)
  have HL := Lib.hid (show l3 ≤ 65536 by omega)
  clear k0 k2 k3
  go_wp2_with (go_at_call 30; refine HN.out.mono ?_; rintro e w4 ⟨⟨d, rfl⟩, hcs⟩; have HCT := Lib.hid hcs; clear hcs; obtain ⟨bb, rfl⟩ : ∃ bb, e = .returned (.bool bb) := by (rcases HCT.out with h | h; exact ⟨_, h⟩; exact ⟨_, h.1⟩))
  go_ret
  refine ⟨⟨d, rfl⟩, ?_⟩
  rcases HCT.out with h | h
  · exact .inl h
  · exact .inr ⟨h.1, rfl, rfl, rfl, HL.out, HQ.out, HCF.out, h.2⟩
/-- what the law's check tells -/
structure FitT (l0 l1 l2 l3 l4 : Nat) (ks ns ps : List Int) (c0 c1 c2 c3 q : Int) : Prop where
  fit : Fit l0 l1 l2 l3 ks ns c0 c1 c2 c3 q
  le4 : l4 ≤ 65536
  tops : TopsOk ks ps l4
set_option maxHeartbeats 2000000 in
set_option maxRecDepth 100000 in
theorem top_any (a0 a1 a2 a3 a4 : Option Addr) (l0 l1 l2 l3 l4 p0 p1 p2 p3 p4 : Nat) (c0 c1 c2 c3 q : Int) (ts : List ByteArray) (ks ls ns ps : List Int) (hn : ts.length = l0) (hk : ks.length = l1) (hs : ns.length = l3) (hp : ps.length = l4) (hk8 : B8 ks) (hs32 : B32 ns) (hp32 : B32 ps)
    (w : World) (hin : InS w a0 ts) (hi1 : In .u8 w a1 ks) (hi3 : In .u32 w a3 ns) (hi4 : In .u32 w a4 ps) :
    Calls Tryd.prog 5 #[.slice a0 l0 p0, .slice a1 l1 p1, .slice a2 l2 p2, .slice a3 l3 p3, .slice a4 l4 p4, .int .u32 c0, .int .u32 c1, .int .u32 c2, .int .u32 c3, .int .u32 q] w (ChkD (FitT l0 l1 l2 l3 l4 ks ns ps c0 c1 c2 c3 q) w) := by
  have H := Lib.hid (And.intro hin (And.intro hi1 (And.intro hi4 (And.intro hk8 hp32))))
  have HF := Lib.hid (fresh_any a0 a1 a2 a3 l0 l1 l2 l3 p0 p1 p2 p3 c0 c1 c2 c3 q ts ks ls ns hn hk hs hk8 hs32 w hin hi1 hi3)
  clear hin hi1 hi3 hi4 hk8 hp32 hs32
  by_cases h0 : (l4 : Int) > 65536
  · have h1 : decide ((65536 : Int) < (l4 : Int)) = true := by simp; omega
    go_enter Tryd.func5, Tryd.ntmps5
    go_wp2_with fail
    go_ret
    exact ⟨⟨0, rfl⟩, .inl rfl⟩
  have g0 : decide ((65536 : Int) < (l4 : Int)) = false := by simp; omega
  go_enter Tryd.func5, Tryd.ntmps5
  go_upto_if 34 with (go_at_call 17; refine HF.out.mono ?_; rintro e w3 ⟨⟨d, rfl⟩, hcs⟩; have HCS := Lib.hid hcs; clear hcs; obtain ⟨bb, rfl⟩ : ∃ bb, e = .returned (.bool bb) := by (rcases HCS.out with h | h; exact ⟨_, h⟩; exact ⟨_, h.1⟩))
  cases bb
  · go_wp2_with fail
    go_ret
    exact ⟨⟨d, rfl⟩, .inl rfl⟩
  have HCF : Hid (Fit l0 l1 l2 l3 ks ns c0 c1 c2 c3 q) := by
    rcases HCS.out with h | h
    · injection h with h; injection h with h; cases h
    · exact Lib.hid h.2
  have e0 : l0 ≤ 65536 := by have := HCF.out.n0; have := HCF.out.le; omega
  have e2 : l2 ≤ 65536 := by have := HCF.out.n2; have := HCF.out.le; omega
  have e3 : l3 ≤ 65536 := by have := HCF.out.n3; have := HCF.out.le; omega
  have hw1 : (w.drewN d).heap = w.heap := rfl
  have HB := Lib.hid (sb_any a0 l0 p0 ts hn e0 (w.drewN d) H.out.1)
  have HT := Lib.hid (tops_any a1 l1 p1 ks hk H.out.2.2.2.1 a4 l4 p4 ps hp H.out.2.2.2.2 HCF.out.le (by omega) (w.drewN d) H.out.2.1 H.out.2.2.1)
  obtain ⟨wz, hwz⟩ : ∃ wz, w.drewN d = wz := ⟨_, rfl⟩
  rw [hwz] at HB HT ⊢
  have HW := Lib.hid hwz
  clear hwz hw1
  go_upto_if 52 with (go_at_call 18; refine HB.out.mono ?_; rintro e w2 ⟨⟨x, rfl⟩, rfl⟩)
  generalize wrap64 (wrap64 (wrap64 (wrap64 (x + (l1 : Int)) + 8 * (l2 : Int)) + 8 * (l3 : Int)) + 8 * (l4 : Int)) = y
  by_cases h4 : y > 1048576
  · have h5 : decide ((1048576 : Int) < y) = true := by simp; omega
    go_wp2_with fail
    go_ret
    exact ⟨⟨d, HW.out.symm⟩, .inl rfl⟩
  have h5 : decide ((1048576 : Int) < y) = false := by simp; omega
  go_wp2_with (go_at_call 19; refine HT.out.mono ?_; rintro e w4 ⟨rfl, hcs⟩; have HCT := Lib.hid hcs; clear hcs; obtain ⟨bb, rfl⟩ : ∃ bb, e = .returned (.bool bb) := by (rcases HCT.out with h | h; exact ⟨_, h⟩; exact ⟨_, h.1⟩))
  go_ret
  refine ⟨⟨d, HW.out.symm⟩, ?_⟩
  rcases HCT.out with h | h
  · exact .inl h
  · exact .inr ⟨h.1, HCF.out, by omega, h.2⟩
end Go.Proofs.YtggepefjodgcgaaDoor
