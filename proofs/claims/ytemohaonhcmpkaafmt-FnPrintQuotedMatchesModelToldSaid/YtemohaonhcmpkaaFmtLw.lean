/-
  The law's walk. No statement of the seat is proved here.
-/
import Derived.Test.YtemohaonhcmpkaaFmtPz
import Derived.Test.YtemohaonhcmpkaaFmtZq
namespace Go.Proofs.YtemohaonhcmpkaaFmt
open Go.RowKit
set_option linter.unusedVariables false
set_option linter.unusedSimpArgs false

def ZbB (e : Ending) : Prop := ∃ b : Bool, e = .returned (.bool b)
set_option maxHeartbeats 4000000 in
set_option maxRecDepth 100000 in
theorem zb_any (a0 : Option Addr) (l0 c0 : Nat) (t : ByteArray) (fl : Int) (w : World) :
    Calls Tryf.prog 4 #[.slice a0 l0 c0, .string t, .int .u8 fl] w fun e w' => ZbB e ∧ w' = w := by
  obtain ⟨n, hn⟩ : ∃ n, t.size = n := ⟨_, rfl⟩
  by_cases h0 : (1048576 : Int) < l0
  · go_enter Tryf.func4, Tryf.ntmps4
    go_wp2_with fail
    go_ret
    exact ⟨⟨_, rfl⟩, rfl⟩
  by_cases h1 : (1048576 : Int) < (n : Int)
  · go_enter Tryf.func4, Tryf.ntmps4
    go_wp2_with fail
    go_ret
    exact ⟨⟨_, rfl⟩, rfl⟩
  by_cases h2 : (1048576 : Int) < (l0 : Int) + n
  · go_enter Tryf.func4, Tryf.ntmps4
    go_wp2_with fail
    go_ret
    exact ⟨⟨_, rfl⟩, rfl⟩
  go_enter Tryf.func4, Tryf.ntmps4
  go_wp2_with fail
  go_ret
  exact ⟨⟨_, rfl⟩, rfl⟩
theorem own_in {w : World} {B : Nat} {v : Value} {zs : List Int} {n : Nat} (h : Own .u8 5 w B v zs) (hn : zs.length = n) : ∃ ao c, v = .slice ao n c ∧ In .u8 w ao zs := by
  obtain ⟨ao, c, rfl, hi, _⟩ := h.form
  exact ⟨ao, c, by rw [hn], hi⟩
set_option maxHeartbeats 8000000 in
set_option maxRecDepth 100000 in
theorem law_any (a0 : Option Addr) (l0 c0 : Nat) (zs : List Int) (hz : zs.length = l0) (t : ByteArray) (fl : Int) (w : World) (hin : In .u8 w a0 zs) {R o cap : Nat} (hF : Fold w R o cap) (hT : Lib.Utf8Tabs 0 1 w) :
    Calls Tryf.prog 3 #[.slice a0 l0 c0, .string t, .int .u8 fl] w fun e w' => e = .returned (.bool true) ∧ Below w.heap.size w w' := by
  have hR : R < w.heap.size := World.block_lt_of_cell? w _ (hF.p 0 (by omega)).1
  have h3 : 3 < w.heap.size := World.block_lt_of_cell? w _ hF.h
  have HZ := Lib.hid (zb_any a0 l0 c0 t fl w)
  have HH := Lib.hid (And.intro hF (And.intro hR (And.intro h3 (And.intro hT hin))))
  have HL := Lib.hid hz
  clear hF hR h3 hT hin hz
  obtain ⟨n, hn⟩ : ∃ n, t.size = n := ⟨_, rfl⟩
  have HN := Lib.hid hn
  by_cases h0 : (1048576 : Int) < (l0 : Int)
  · go_enter Tryf.func3, Tryf.ntmps3
    go_upto_if 13 with (go_at_call 4; refine HZ.out.mono ?_; rintro e w' ⟨⟨b, rfl⟩, hw⟩; obtain rfl := hw.symm)
    cases b
    · go_wp2_with fail
      go_ret
      exact ⟨rfl, Below.refl _ _⟩
    · go_wp2_with fail
      go_ret
      exact ⟨rfl, Below.refl _ _⟩
  by_cases h1 : (1048576 : Int) < (n : Int)
  · go_enter Tryf.func3, Tryf.ntmps3
    go_upto_if 13 with (go_at_call 4; refine HZ.out.mono ?_; rintro e w' ⟨⟨b, rfl⟩, hw⟩; obtain rfl := hw.symm)
    cases b
    · go_wp2_with fail
      go_ret
      exact ⟨rfl, Below.refl _ _⟩
    · go_wp2_with fail
      go_ret
      exact ⟨rfl, Below.refl _ _⟩
  by_cases h2 : (1048576 : Int) < (l0 : Int) + (n : Int)
  · go_enter Tryf.func3, Tryf.ntmps3
    go_upto_if 13 with (go_at_call 4; refine HZ.out.mono ?_; rintro e w' ⟨⟨b, rfl⟩, hw⟩; obtain rfl := hw.symm)
    cases b
    · go_wp2_with fail
      go_ret
      exact ⟨rfl, Below.refl _ _⟩
    · go_wp2_with fail
      go_ret
      exact ⟨rfl, Below.refl _ _⟩
  have hl0 : l0 ≤ 1048576 := by omega
  have hl1 : n ≤ 1048576 := by omega
  have HRH := Lib.hid (rh_any t (by omega) w)
  have HSZ : Hid (zs.length ≤ 1048576 ∧ t.size ≤ 1048576) := Lib.hid ⟨by rw [HL.out]; exact hl0, by rw [hn]; exact hl1⟩
  obtain ⟨q, hq⟩ : ∃ q, qof t = q := ⟨_, rfl⟩
  have HQ := Lib.hid hq
  have HQI : Hid (q = 34 ∨ q = 39) := Lib.hid (by rw [← hq]; exact qof_is t)
  have HCP : Hid (∀ (ao : Option Addr) (k : Nat) (w : World), In .u8 w ao zs → Calls Tryf.prog 6 #[.slice ao l0 k] w fun e w' => ∃ x, e = .returned (.slice x l0 l0) ∧ (x = none → zs = []) ∧ In .u8 w' x zs ∧ Own .u8 5 w' w.heap.size (.slice x l0 l0) zs ∧ Below w.heap.size w w') := Lib.hid (fun ao k w h => by
    have hc := cp_any ao k zs w h HSZ.out.1
    unfold CpE at hc
    rw [HL.out] at hc
    exact hc)
  have HPF : Hid (∀ w, Calls Tryf.prog 8 #[.string t] w fun e w' => e = .returned (.int .u8 (q : Int)) ∧ w' = w) := Lib.hid (fun w => by have := pf_any t HSZ.out.2 w; rw [hq] at this; exact this)
  obtain ⟨zf, hzf⟩ : ∃ zf, zs ++ [(q : Int)] ++ body t q t.size ++ [(q : Int)] = zf := ⟨_, rfl⟩
  obtain ⟨m, hm⟩ : ∃ m, zf.length = m := ⟨_, rfl⟩
  have HZF : Hid (zs ++ [(q : Int)] ++ body t q t.size ++ [(q : Int)] = zf ∧ zf.length = m ∧ m ≤ 8388608) := Lib.hid ⟨hzf, hm, by
    have h1 := body_len t q t.size
    have h2 := HSZ.out
    rw [← hm, ← hzf]
    simp only [List.length_append, List.length_cons, List.length_nil]
    omega⟩
  have HQM : Hid (∀ (B : Nat) (v : Value) (w : World), Own .u8 5 w B v zs → B ≤ w.heap.size → Calls Tryf.prog 7 #[v, .string t, .int .u8 (q : Int)] w fun e w' => ∃ ao c, e = .returned (.slice ao m c) ∧ In .u8 w' ao zf ∧ Below B w w') := Lib.hid (fun B v w ho hB => by
    refine (qm_any B v zs t q HQI.out w ho hB HSZ.out.1 HSZ.out.2).mono ?_
    rintro e w' ⟨v', rfl, h1, h2⟩
    rw [HZF.out.1] at h1
    obtain ⟨ao, c, rfl, h3⟩ := own_in h1 HZF.out.2.1
    exact ⟨ao, c, rfl, h3, h2⟩)
  clear hq hzf hm
  go_enter Tryf.func3, Tryf.ntmps3
  go_upto_if 13 with (go_at_call 4; refine HZ.out.mono ?_; rintro e w' ⟨⟨b, rfl⟩, hw⟩; obtain rfl := hw.symm)
  cases b
  · go_wp2_with fail
    go_ret
    exact ⟨rfl, Below.refl _ _⟩
  go_upto_if 31 with (go_at_call 5; refine HRH.out.mono ?_; rintro e w' ⟨⟨b, rfl, hb⟩, hw⟩; obtain rfl := hw.symm)
  cases b
  case true =>
    go_wp2_with fail
    go_ret
    exact ⟨rfl, Below.refl _ _⟩
  have HNX := Lib.hid (hb rfl)
  clear hb
  go_upto_region 8 with (go_at_call 6; refine (HCP.out _ _ _ HH.out.2.2.2.2).mono ?_; rintro e w1 ⟨x1, rfl, k1, k2, k3, k4⟩; have H1 := Lib.hid (And.intro k1 (And.intro k2 (And.intro k3 k4))); clear k1 k2 k3 k4)
  go_upto_region 9 with (first
    | (go_at_call 6; refine (HCP.out _ _ _ H1.out.2.1).mono ?_; rintro e w2 ⟨x2, rfl, k1, k2, k3, k4⟩; have H2 := Lib.hid (And.intro k1 (And.intro k2 (And.intro k3 k4))); clear k1 k2 k3 k4)
    | (go_at_call 8; refine (HPF.out _).mono ?_; rintro e w' ⟨rfl, hw⟩; obtain rfl := hw.symm)
    | (go_at_call 7; refine (HQM.out _ _ _ H2.out.2.2.1 H2.out.2.2.2.size).mono ?_; rintro e w3 ⟨x3, c3, rfl, k1, k2⟩; have H3 := Lib.hid (And.intro k1 (H2.out.2.2.2.trans k2)); clear k1 k2))
  have HB3 : Hid (Below w.heap.size w w3) := Lib.hid (H1.out.2.2.2.trans (H3.out.2.mono H1.out.2.2.2.size))
  have HPZ : Hid (Calls Tryf.prog 9 #[.slice x1 l0 l0, .int .i64 0, .string t, .int .u8 fl] w3 fun e w' => ∃ ao c, e = .returned (.slice ao m c) ∧ In .u8 w' ao zf ∧ Below w3.heap.size w3 w') := Lib.hid (by
    have hs := HB3.out.size
    have h := pz_any w3.heap.size x1 zs t fl w3 (H1.out.2.1.kept H3.out.2) H1.out.1 (Nat.le_refl _) HSZ.out.1 HSZ.out.2 HNX.out (HH.out.1.below HB3.out HH.out.2.2.1 HH.out.2.1) (Nat.lt_of_lt_of_le HH.out.2.1 hs) (Nat.lt_of_lt_of_le HH.out.2.2.1 hs) (tabs_below HH.out.2.2.2.1 HB3.out (Nat.lt_of_le_of_lt (by decide) HH.out.2.2.1) (Nat.lt_of_le_of_lt (by decide) HH.out.2.2.1))
    rw [HL.out, HQ.out] at h
    refine h.mono ?_
    rintro e w' ⟨v', rfl, h1, h2⟩
    rw [HZF.out.1] at h1
    obtain ⟨ao, c, rfl, h3⟩ := own_in h1 HZF.out.2.1
    exact ⟨ao, c, rfl, h3, h2⟩)
  go_upto_region 10 with (go_at_call 9; refine HPZ.out.mono ?_; rintro e w4 ⟨x4, c4, rfl, k1, k2⟩; have H4 := Lib.hid (And.intro k1 k2); clear k1 k2)
  have HSM := Lib.hid (sm_any x4 x3 c4 c3 zf m HZF.out.2.1 HZF.out.2.2 w4 H4.out.1 (H3.out.1.kept H4.out.2))
  go_wp2_with (go_at_call 10; refine HSM.out.mono ?_; rintro e w5 ⟨rfl, k1⟩; have H5 := Lib.hid (below_of0 k1); clear k1)
  go_ret
  have b4 := HB3.out.trans (H4.out.2.mono HB3.out.size)
  exact ⟨rfl, b4.trans (H5.out.mono b4.size)⟩
end Go.Proofs.YtemohaonhcmpkaaFmt
