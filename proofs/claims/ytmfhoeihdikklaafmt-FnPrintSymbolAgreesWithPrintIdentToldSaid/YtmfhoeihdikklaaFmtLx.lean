/-
  The law's walk, whole. No statement of the seat is proved here.
-/
import Derived.Test.YtmfhoeihdikklaaFmtLw
namespace Go.Proofs.YtmfhoeihdikklaaFmt
open Go.Maps Go.RowKit
set_option linter.unusedVariables false
set_option linter.unusedSimpArgs false

set_option maxHeartbeats 8000000 in
set_option maxRecDepth 100000 in
theorem law_any (a0 a1 a2 a3 a4 : Option Addr) (l0 l1 l2 l3 l4 p0 p1 p2 p3 p4 r : Nat) (asc : Bool) (ws : Int) (zs : List Int) (ts : List ByteArray) (ls ks : List Int) (vs : List ByteArray)
    (h0 : zs.length = l0) (h1 : ts.length = l1) (h2 : ls.length = l2) (h3 : ks.length = l3) (h4 : vs.length = l4)
    (hb : ∀ i, i < ls.length → 0 ≤ nth ls i ∧ nth ls i < 4294967296) (hk : ∀ i, i < ks.length → 0 ≤ nth ks i ∧ nth ks i < 4294967296) (hr : r < 4294967296)
    (n1 : a1 = none → l1 = 0) (n4 : a4 = none → l4 = 0) (w : World) (hA : Al w w a0 a1 a2 a3 a4 zs ts ls ks vs) :
    Calls Tryf.prog 3 #[.slice a0 l0 p0, .slice a1 l1 p1, .slice a2 l2 p2, .slice a3 l3 p3, .slice a4 l4 p4, .int .u32 (r : Int), .bool asc, .int .u8 ws] w fun e w' => e = .returned (.bool true) ∧ Below w.heap.size w w' := by
  have HZ := Lib.hid (zb_any a0 a1 a2 a3 a4 l0 l1 l2 l3 l4 p0 p1 p2 p3 p4 (r : Int) asc ws ts vs h1 h4 w hA.i1 hA.i4)
  have HF := Lib.hid (fit_any a0 a1 a2 a3 a4 l0 l1 l2 l3 l4 p0 p1 p2 p3 p4 ts vs h1 h4 w hA.i1 hA.i4)
  have HW0 := Lib.hid (fun n1 n2 => wf_any a1 a2 a3 a4 l1 l2 l3 l4 p1 p2 p3 p4 r ls h2 hb hr n1 n2 w hA.i2)
  have HN := Lib.hid (And.intro h0 (And.intro h1 (And.intro h2 (And.intro h3 (And.intro h4 (And.intro hb (And.intro hk (And.intro hr (And.intro n1 n4)))))))))
  have HA := Lib.hid hA
  clear h0 h1 h2 h3 h4 hb hk hr n1 n4 hA
  go_enter Tryf.func3, Tryf.ntmps3
  go_upto_if 31 with (go_at_call 4; refine HZ.out.mono ?_; rintro e w' ⟨⟨b, rfl⟩, rfl⟩)
  cases b
  · go_wp2_with fail
    go_ret
    exact ⟨rfl, Below.refl _ _⟩
  clear HZ
  go_upto_if 38 with (go_at_call 5; refine HF.out.mono ?_; rintro e w' ⟨⟨b, rfl, hfit⟩, rfl⟩)
  cases b
  · go_wp2_with fail
    go_ret
    exact ⟨rfl, Below.refl _ _⟩
  have HFit := Lib.hid (hfit rfl)
  have HW1 := Lib.hid (HW0.out HFit.out.n1 HFit.out.n2)
  clear hfit HF HW0
  go_upto_if 45 with (go_at_call 6; refine HW1.out.mono ?_; rintro e w' ⟨⟨b, rfl, hwf⟩, rfl⟩)
  cases b
  · go_wp2_with fail
    go_ret
    exact ⟨rfl, Below.refl _ _⟩
  have HWf := Lib.hid (hwf rfl)
  clear hwf HW1
  obtain ⟨res, hres⟩ : ∃ res, chosen ts ls ks vs r = res := ⟨_, rfl⟩
  have HRes := Lib.hid hres
  have HSz : Hid (res.size ≤ 1048576) := Lib.hid (by rw [← hres]; exact chosen_small HFit.out HWf.out HN.out.2.2.1 HN.out.2.2.2.1 HN.out.2.2.2.2.2.1)
  clear hres
  go_upto_region 8 with (go_at_call 7; refine (cpb_any _ _ _ zs HN.out.1 _ HA.out.i0 HFit.out.n0).mono ?_; rintro e w1 ⟨b0, c0, rfl, x1, x2, x3⟩; have HA2 := Lib.hid ({ HA.out.kept x3 with i0 := x1 }); clear x1 x2 x3 HA; have HA := HA2; clear HA2)
  go_upto_region 9 with (go_at_call 8; refine (cps_any _ _ _ ts HN.out.2.1 _ HA.out.i1 (Nat.le_trans HFit.out.n1 (by omega)) HN.out.2.2.2.2.2.2.2.2.1).mono ?_; rintro e w1 ⟨b1, c1, rfl, x1, x3⟩; have HA2 := Lib.hid ({ HA.out.kept x3 with i1 := x1 }); clear x1 x3 HA; have HA := HA2; clear HA2)
  go_upto_region 10 with (go_at_call 9; refine (cpu_any _ _ _ ls HN.out.2.2.1 _ HA.out.i2 (Nat.le_trans HFit.out.n2 (by omega))).mono ?_; rintro e w1 ⟨b2, c2, rfl, x1, x3⟩; have HA2 := Lib.hid ({ HA.out.kept x3 with i2 := x1 }); clear x1 x3 HA; have HA := HA2; clear HA2)
  go_upto_region 11 with (go_at_call 9; refine (cpu_any _ _ _ ks HN.out.2.2.2.1 _ HA.out.i3 (Nat.le_trans HFit.out.n3 (by omega))).mono ?_; rintro e w1 ⟨b3, c3, rfl, x1, x3⟩; have HA2 := Lib.hid ({ HA.out.kept x3 with i3 := x1 }); clear x1 x3 HA; have HA := HA2; clear HA2)
  go_upto_region 12 with (go_at_call 8; refine (cps_any _ _ _ vs HN.out.2.2.2.2.1 _ HA.out.i4 (Nat.le_trans HFit.out.n4 (by omega)) HN.out.2.2.2.2.2.2.2.2.2).mono ?_; rintro e w1 ⟨b4, c4, rfl, x1, x3⟩; have HA2 := Lib.hid ({ HA.out.kept x3 with i4 := x1 }); clear x1 x3 HA; have HA := HA2; clear HA2)
  have HC10 := Lib.hid (cho_any b1 b2 b3 b4 _ _ _ _ c1 c2 c3 c4 r ts vs ls ks HN.out.2.1 HN.out.2.2.1 HN.out.2.2.2.1 HN.out.2.2.2.2.1 HWf.out HN.out.2.2.2.2.2.1 HN.out.2.2.2.2.2.2.1 HFit.out.n1 HFit.out.n3 _ HA.out.i1 HA.out.i2 HA.out.i3 HA.out.i4)
  rw [HRes.out] at HC10
  go_upto_region 13 with (go_at_call 10; refine HC10.out.mono ?_; rintro e w2 ⟨rfl, hw2⟩; rw [hw2]; clear hw2)
  have HC11 := Lib.hid (nohex_any res asc HSz.out w1)
  go_upto_if 65 with (go_at_call 11; refine HC11.out.mono ?_; rintro e w2 ⟨⟨b, rfl, hnh⟩, hw2⟩; rw [hw2]; clear hw2)
  cases b
  · go_wp2_with fail
    go_ret
    exact ⟨rfl, HA.out.bl⟩
  have HNh := Lib.hid (hnh rfl)
  clear hnh HC10 HC11
  have HC7 := Lib.hid (cpb_any b0 _ c0 zs HN.out.1 w1 HA.out.i0 HFit.out.n0)
  have e1 := HWf.out.e1
  have e2 := HWf.out.e2
  have HC12 : Hid (∀ (d0 : Option Addr) (k0 : Nat) (w3 : World), Own .u8 5 w3 w1.heap.size (.slice d0 l0 k0) zs → Below w1.heap.size w1 w3 → Calls Tryf.prog 12 #[.slice d0 l0 k0, .bool asc, .slice b1 l1 c1, .slice b2 l2 c2, .slice b3 l3 c3, .slice b4 l4 c4] w3 (NsP w3 w1.heap.size asc zs ts ls ks vs l1 l3)) := Lib.hid (fun d0 k0 w3 ho hw => by
    have hA := HA.out.kept hw
    have := ns_print d0 b1 b2 b3 b4 l0 l1 l2 l3 k0 c1 c2 c3 c4 asc zs ts vs ls ks HN.out.1 HN.out.2.1 (by rw [HN.out.2.2.1, e1]) HN.out.2.2.2.1 (by rw [HN.out.2.2.2.2.1, e2]) HN.out.2.2.2.2.2.1 HN.out.2.2.2.2.2.2.1 HFit.out.n1 HFit.out.n3 (fun i hi => HFit.out.vs i (by omega)) w3 w1.heap.size hw.size ho hA.i1 hA.i2 hA.i3 hA.i4
    rw [← e1, ← e2] at *
    exact this)
  clear e1 e2
  go_upto_region 16 with (first
    | (go_at_call 7; refine HC7.out.mono ?_; rintro e w3 ⟨d0, k0, rfl, x1, x2, x3⟩; have H3 := Lib.hid (And.intro x2 x3); clear x1 x2 x3)
    | (go_at_call 12; refine (HC12.out _ _ _ H3.out.1 H3.out.2).mono ?_; rintro e w4 ⟨p, S, T, M, D, rfl, y1, y2, y3, y4, y5, y6, y7, y8, y9⟩; have HB4 := Lib.hid (HA.out.kept (H3.out.2.trans (y6.mono H3.out.2.size))); have HP4 := Lib.hid (And.intro (ps_of HWf.out HN.out.2.2.1 HN.out.2.2.2.2.2.1 y1 y2 y3 y4 HB4.out.iv HB4.out.tb (Nat.lt_of_lt_of_le (tabs_lt HA.out.tb).2 H3.out.2.size) y7 H3.out.2.size) (And.intro y5 (H3.out.2.trans (y6.mono H3.out.2.size)))); clear y1 y2 y3 y4 y5 y6 y7 y8 y9))
  clear HC7 HC12 H3
  obtain ⟨kc, ao, c, hps, hnm⟩ := HP4.out.1
  have hll := HFit.out.n0
  have hz0 := HN.out.1
  obtain ⟨ys, hys⟩ : ∃ ys, zs ++ out res = ys := ⟨_, rfl⟩
  have HYl : Hid (ys.length ≤ 1073741824) := Lib.hid (by have := out_len res; have := HSz.out; rw [← hys, List.length_append]; omega)
  have hS0 := (ps_any w4.heap.size w1.heap.size p asc M T S l1 l3 kc (tgt ls) (rkf ls) D zs ao c ts vs ks r (tgt ls r) ws res (roots HWf.out HN.out.2.2.1 HN.out.2.2.2.2.2.1) rfl HWf.out.r HFit.out.n1 HP4.out.2.1 hnm (by rw [← HRes.out, ← HN.out.2.2.2.1]; rfl) HSz.out (by omega) HNh.out w4 rfl hps)
  rw [hys] at hS0
  have HS := Lib.hid (sn_any p r ws w4 _ hS0)
  clear hS0
  clear hps hnm
  go_upto_region 17 with (go_at_call 13; refine HS.out.mono ?_; rintro e w5 ⟨rfl, z1, z2⟩; have H5 := Lib.hid (And.intro z1 (HP4.out.2.2.trans z2)); clear z1 z2)
  have HA5 := Lib.hid (HA.out.kept H5.out.2)
  have HC := Lib.hid (css_any _ _ _ _ _ _ _ _ _ _ w5 H5.out.1)
  go_upto_region 18 with (go_at_call 14; refine HC.out.mono ?_; rintro e w6 ⟨⟨f0, g0, rfl, x1⟩, hw⟩; rw [hw]; clear hw; have H6 := Lib.hid x1; clear x1)
  have HC7 := Lib.hid (cpb_any b0 _ c0 zs HN.out.1 w5 HA5.out.i0 HFit.out.n0)
  go_upto_region 19 with (first
    | (go_at_call 7; refine HC7.out.mono ?_; rintro e w7 ⟨d1, k1, rfl, x1, x2, x3⟩; have H7 := Lib.hid (And.intro x2 x3); clear x1 x2 x3)
    | (go_at_call 15; refine (newp_any d1 _ k1 asc zs HN.out.1 w7 w5.heap.size H7.out.2.size H7.out.1).mono ?_; rintro e w8 ⟨p', rfl, z1, z2⟩; have H8 := Lib.hid (And.intro z1 (H7.out.2.trans (z2.mono H7.out.2.size))); clear z1 z2))
  have HA8 := Lib.hid (HA5.out.kept H8.out.2)
  have hI0 := (pi_any w5.heap.size p' 0 false asc none (none, 0) zs 0 0 res ws w8 H8.out.1 H8.out.2.size HSz.out (by omega) HA8.out.tb HNh.out)
  rw [hys] at hI0
  have HI := Lib.hid (in_any p' res ws w8 _ hI0)
  clear hI0
  go_upto_region 20 with (go_at_call 16; refine HI.out.mono ?_; rintro e w9 ⟨rfl, z1, z2⟩; have H9 := Lib.hid (And.intro z1 (H8.out.2.trans z2)); clear z1 z2)
  have HD := Lib.hid (css_any _ _ _ _ _ _ _ _ _ _ w9 H9.out.1)
  go_upto_region 21 with (go_at_call 14; refine HD.out.mono ?_; rintro e w10 ⟨⟨f1, g1, rfl, x1⟩, hw⟩; rw [hw]; clear hw; have H10 := Lib.hid x1; clear x1)
  have HE := Lib.hid (eq_any f0 f1 _ g0 g1 ys rfl HYl.out w9 (H6.out.kept H9.out.2) H10.out)
  go_wp2_with (go_at_call 17; refine HE.out.mono ?_; rintro e w11 ⟨rfl, z1⟩; have H11 := Lib.hid z1; clear z1)
  go_ret
  have b59 := HA5.out.bl.trans (H9.out.2.mono HA5.out.bl.size)
  exact ⟨rfl, b59.trans (H11.out.mono b59.size)⟩
end Go.Proofs.YtmfhoeihdikklaaFmt
