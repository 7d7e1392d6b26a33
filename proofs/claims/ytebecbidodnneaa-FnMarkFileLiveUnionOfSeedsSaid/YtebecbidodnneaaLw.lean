/-
  The law, walked. No statement of the seat is proved here.
-/
import Derived.Test.YtebecbidodnneaaRl
import Derived.Test.YtebecbidodnneaaCw
namespace Go.Proofs.Ytebecbidodnneaa
open Go.RowKit
set_option linter.unusedVariables false
set_option linter.unusedSimpArgs false

theorem Ext.below {F : Nat} {T : Nat → Nat} {n B : Nat} {w w' : World} (h : Ext F T n w w') (hB : B ≤ w.heap.size) (hF : B ≤ F) (hT : ∀ v, v < n → B ≤ T v) : Below B w w' :=
  ⟨h.os, h.tape, h.output, h.size, fun i hi => h.block i (by omega) (by omega) (fun v hv e => by have := hT v hv; omega)⟩
theorem Rd.fc {w : World} {Q F : Nat} {P T : Nat → Nat} {fs : List Wf} {d : Nat → Bool} (h : Rd w Q F P T fs d) {v : Nat} (hv : v < fs.length) : w.cell? ⟨F, v * 24 + 23, none⟩ = some (.bool (d (cf v))) ∧ F < w.heap.size := by
  obtain ⟨cs, f1, f2⟩ := h.f
  exact ⟨(f1.cell _).trans (f2 v hv), f1.lt⟩
theorem Rd.pc {w : World} {Q F : Nat} {P T : Nat → Nat} {fs : List Wf} {d : Nat → Bool} (h : Rd w Q F P T fs d) {v j : Nat} (hv : v < fs.length) (hj : j < (wf fs v).ps.length) : w.cell? ⟨Q, v, none⟩ = some (.pointer (some ⟨P v, 0, none⟩)) ∧ Q < w.heap.size ∧
    w.cell? ⟨P v, 20, none⟩ = some (.slice (some ⟨T v, 0, none⟩) (wf fs v).ps.length (wf fs v).ps.length) ∧ P v < w.heap.size ∧ w.cell? ⟨T v, j * 11 + 10, none⟩ = some (.bool (d (cp v j))) ∧ T v < w.heap.size := by
  obtain ⟨qs, q1, q2⟩ := h.q
  obtain ⟨cs, k1, k2⟩ := h.p v hv
  obtain ⟨ds, t1, t2⟩ := h.t v hv
  exact ⟨(q1.cell _).trans (q2 v hv), q1.lt, (k1.cell _).trans k2, k1.lt, (t1.cell _).trans (t2 j hj), t1.lt⟩
/-- one graph built and run over: what is kept, what is read -/
structure Gd (B : Nat) (w w' : World) (Q F : Nat) (P T : Nat → Nat) (fs : List Wf) (M : (Nat → Bool) → Prop) : Prop where
  r : ∃ d, Rd w' Q F P T fs d ∧ M d
  b : Below w.heap.size w w'
theorem gd_of {w wb wr : World} {Q F n : Nat} {P R T : Nat → Nat} {fs : List Wf} {M : (Nat → Bool) → Prop} {e : Ending} (hn : fs.length = n) (hb : Bq w wb Q F n n P R T fs) (hr : RlE Q F P T fs M wb e wr) : (∃ d, Rd wr Q F P T fs d ∧ M d) ∧ Below w.heap.size w wr := by
  obtain ⟨_, d, h1, h2, h3⟩ := hr
  refine ⟨⟨d, h1, h2⟩, (below_of hb.g).trans (h3.below hb.g.size hb.b.2 (fun v hv => hb.lo v (by rw [← hn]; exact hv)))⟩
set_option maxHeartbeats 0 in
set_option maxRecDepth 100000 in
theorem law_any (ao : Option Addr) (n cap : Nat) (fs : List Wf) (hn : fs.length = n) (hokz : ∀ i, i < fs.length → OkF (wf fs i)) (a b : Int) (ig : Bool) (ha0 : 0 ≤ a) (ha1 : a < 4294967296) (hb0 : 0 ≤ b) (hb1 : b < 4294967296) (w : World) (hin : InS w ao fs 5 FAt) :
    Calls Try.prog 3 #[.slice ao n cap, .int .u32 a, .int .u32 b, .bool ig] w fun e w' => e = .returned (.bool true) ∧ Below w.heap.size w w' := by
  have HI := Lib.hid (And.intro hin (And.intro hokz hn))
  clear hin hokz hn
  obtain ⟨x, rfl⟩ : ∃ x : Nat, a = (x : Int) := ⟨a.toNat, by omega⟩
  obtain ⟨y, rfl⟩ : ∃ y : Nat, b = (y : Int) := ⟨b.toNat, by omega⟩
  have HXY := Lib.hid (And.intro ha1 hb1)
  clear ha0 ha1 hb0 hb1
  have HZB := Lib.hid (zb_any ao n cap fs HI.out.2.2 (x : Int) (y : Int) ig w HI.out.1)
  go_enter Try.func3, Try.ntmps3
  go_upto_if 26 with (go_at_call 4; refine HZB.out.mono ?_; rintro e w2 ⟨⟨bb, rfl, hb⟩, hw⟩; obtain rfl := hw.symm; have HB := Lib.hid hb; clear hb)
  cases bb
  · go_wp2_with fail
    go_ret
    exact ⟨rfl, Below.refl _ _⟩
  have HBZ : Hid (n ≤ 1048576 ∧ ∀ v, v < n → Bz (wf fs v)) := Lib.hid (HB.out rfl)
  have HSZ := Lib.hid (sz_any ao n cap fs HI.out.2.2 HBZ.out.1 HBZ.out.2 w HI.out.1)
  clear HZB HB
  go_upto_if 29 with (go_at_call 5; refine HSZ.out.mono ?_; rintro e w2 ⟨⟨q, rfl⟩, hw⟩; obtain rfl := hw.symm)
  by_cases hq : (1048576 : Int) < q
  · have d0 : decide ((1048576 : Int) < q) = true := by simp [hq]
    rw [d0]
    go_wp2_with fail
    go_ret
    exact ⟨rfl, Below.refl _ _⟩
  have d0 : decide ((1048576 : Int) < q) = false := by simp; omega
  rw [d0]
  clear HSZ hq d0
  by_cases hn4 : (4096 : Int) < (n : Int)
  · go_wp2_with fail
    go_ret
    exact ⟨rfl, Below.refl _ _⟩
  have hn4' : n ≤ 4096 := by omega
  have wx' : IntKind.u64.wrap (x : Int) = (x : Int) := by rw [IntKind.wrap_u64]; have := HXY.out; omega
  have wy' : IntKind.u64.wrap (y : Int) = (y : Int) := by rw [IntKind.wrap_u64]; have := HXY.out; omega
  have wn' : IntKind.u64.wrap (n : Int) = (n : Int) := by rw [IntKind.wrap_u64]; omega
  by_cases han : n ≤ x
  · have e1 : decide ((n : Int) ≤ (x : Int)) = true := by simp; omega
    have e2 : decide (n ≤ x) = true := by simp [han]
    go_wp2_with fail
    go_ret
    exact ⟨rfl, Below.refl _ _⟩
  have e1 : decide ((n : Int) ≤ (x : Int)) = false := by simp; omega
  have e2 : decide (n ≤ x) = false := by simp; omega
  by_cases hbn : n ≤ y
  · have e3 : decide ((n : Int) ≤ (y : Int)) = true := by simp; omega
    have e4 : decide (n ≤ y) = true := by simp [hbn]
    go_wp2_with fail
    go_ret
    exact ⟨rfl, Below.refl _ _⟩
  have e3 : decide ((n : Int) ≤ (y : Int)) = false := by simp; omega
  have e4 : decide (n ≤ y) = false := by simp; omega
  have HX : Hid (x < fs.length ∧ y < fs.length) := Lib.hid (by rw [HI.out.2.2]; exact ⟨by omega, by omega⟩)
  have hxn : x < n := by omega
  have hyn : y < n := by omega
  have HWL := Lib.hid (wl_any ao n cap fs HI.out.2.2 hn4' HBZ.out.2 HI.out.2.1 w HI.out.1)
  clear han hbn
  go_upto_if 49 with (go_at_call 6; refine HWL.out.mono ?_; rintro e w1 ⟨bb, rfl, hb, hg⟩; have HW := Lib.hid (And.intro hb hg); clear hb hg)
  clear e1 e2 e3 e4 wx' wy' wn' hn4 HWL
  cases bb
  · go_wp2_with fail
    go_ret
    exact ⟨rfl, below_of HW.out.2⟩
  have HOK : Hid (OkE fs) := Lib.hid (HW.out.1 rfl)
  have HI1 : Hid (InS w1 ao fs 5 FAt) := Lib.hid (HI.out.1.kept kAF (below_of HW.out.2))
  have HCL := Lib.hid (cl_any ao n cap fs HI.out.2.2 (by omega) hn4' HBZ.out.2 w1 HI1.out)
  go_upto_region 12 with (go_at_call 7; refine HCL.out.mono ?_; rintro e w2 ⟨Fc, rfl, k1, k2⟩; have HC := Lib.hid (And.intro k1 k2); clear k1 k2)
  clear HCL HI1
  have HB2 : Hid (Below w.heap.size w w2) := Lib.hid (below_of (gb_trans HW.out.2 HC.out.2))
  have HK : Hid (∀ i, i < fs.length → OkF (wf fs i)) := Lib.hid HI.out.2.1
  have HBW := Lib.hid (bw_any (some ⟨Fc, 0, none⟩) n n fs HI.out.2.2 HOK.out HK.out w2 HC.out.1)
  go_upto_region 13 with (go_at_call 8; refine HBW.out.mono ?_; rintro e wbA ⟨FA, QA, PA, RA, TA, rfl, hq⟩; have HA := Lib.hid hq; clear hq)
  clear HBW
  have HRL := Lib.hid (rl_one QA FA n PA RA TA fs HI.out.2.2 HOK.out ig x HX.out.1 w2 wbA HA.out)
  go_upto_region 14 with (go_at_call 9; refine HRL.out.mono ?_; rintro e w3 hr; have HGA := Lib.hid (gd_of HI.out.2.2 HA.out hr); obtain rfl := hr.1; clear hr)
  clear HRL HA
  have HSw3 : Hid (Below w2.heap.size w2 w3) := Lib.hid HGA.out.2
  have HBW := Lib.hid (bw_any (some ⟨Fc, 0, none⟩) n n fs HI.out.2.2 HOK.out HK.out w3 (HC.out.1.kept kAF HSw3.out))
  go_upto_region 15 with (go_at_call 8; refine HBW.out.mono ?_; rintro e wbB ⟨FB, QB, PB, RB, TB, rfl, hq⟩; have HB := Lib.hid hq; clear hq)
  clear HBW
  have HRL := Lib.hid (rl_one QB FB n PB RB TB fs HI.out.2.2 HOK.out ig y HX.out.2 w3 wbB HB.out)
  go_upto_region 16 with (go_at_call 9; refine HRL.out.mono ?_; rintro e w4 hr; have HGB := Lib.hid (gd_of HI.out.2.2 HB.out hr); obtain rfl := hr.1; clear hr)
  clear HRL HB
  have HSw4 : Hid (Below w2.heap.size w2 w4) := Lib.hid (HSw3.out.trans (HGB.out.2.mono HSw3.out.size))
  have HBW := Lib.hid (bw_any (some ⟨Fc, 0, none⟩) n n fs HI.out.2.2 HOK.out HK.out w4 (HC.out.1.kept kAF HSw4.out))
  go_upto_region 17 with (go_at_call 8; refine HBW.out.mono ?_; rintro e wbC ⟨FC, QC, PC, RC, TC, rfl, hq⟩; have HC := Lib.hid hq; clear hq)
  clear HBW
  have HRL := Lib.hid (rl_two QC FC n PC RC TC fs HI.out.2.2 HOK.out ig x y HX.out.1 HX.out.2 w4 wbC HC.out)
  go_upto_region 18 with (go_at_call 9; refine HRL.out.mono ?_; rintro e w5 hr; have HGC := Lib.hid (gd_of HI.out.2.2 HC.out hr); obtain rfl := hr.1; clear hr)
  clear HRL HC
  have HSw5 : Hid (Below w2.heap.size w2 w5) := Lib.hid (HSw4.out.trans (HGC.out.2.mono HSw4.out.size))
  have HBW := Lib.hid (bw_any (some ⟨Fc, 0, none⟩) n n fs HI.out.2.2 HOK.out HK.out w5 (HC.out.1.kept kAF HSw5.out))
  go_upto_region 19 with (go_at_call 8; refine HBW.out.mono ?_; rintro e wbD ⟨FD, QD, PD, RD, TD, rfl, hq⟩; have HD := Lib.hid hq; clear hq)
  clear HBW
  have HRL := Lib.hid (rl_two QD FD n PD RD TD fs HI.out.2.2 HOK.out ig y x HX.out.2 HX.out.1 w5 wbD HD.out)
  go_upto_region 20 with (go_at_call 9; refine HRL.out.mono ?_; rintro e w6 hr; have HGD := Lib.hid (gd_of HI.out.2.2 HD.out hr); obtain rfl := hr.1; clear hr)
  clear HRL HD
  have HSw6 : Hid (Below w2.heap.size w2 w6) := Lib.hid (HSw5.out.trans (HGD.out.2.mono HSw5.out.size))
  have HF : Hid (Below w.heap.size w w6 ∧ InS w6 (some ⟨Fc, 0, none⟩) fs 5 FAt) := Lib.hid ⟨HB2.out.trans (HSw6.out.mono HB2.out.size), HC.out.1.kept kAF HSw6.out⟩
  obtain ⟨dA, a1, a2⟩ := HGA.out.1
  obtain ⟨dB, b1, b2⟩ := HGB.out.1
  obtain ⟨dC, c1, ⟨d1, c2, c3⟩⟩ := HGC.out.1
  obtain ⟨dD, e1, ⟨d2, e2, e3⟩⟩ := HGD.out.1
  have HR : Hid (Rd w6 QA FA PA TA fs dA ∧ Rd w6 QB FB PB TB fs dB ∧ Rd w6 QC FC PC TC fs dC ∧ Rd w6 QD FD PD TD fs dD) := Lib.hid ⟨((a1.below HGB.out.2).below HGC.out.2).below HGD.out.2, (b1.below HGC.out.2).below HGD.out.2, c1.below HGD.out.2, e1⟩
  have HM : Hid (dA (cf x) = true ∧ dB (cf y) = true ∧ (∀ v, dC v = (dA v || dB v)) ∧ ∀ v, dD v = (dA v || dB v)) := Lib.hid ⟨mk_here a2, mk_here b2, fun v => mk_two c2 c3 a2 b2 v, fun v => by rw [mk_two e2 e3 b2 a2 v, Bool.or_comm]⟩
  clear HGA HGB HGC HGD HSw3 HSw4 HSw5 HSw6 HB2 HC HW a1 a2 b1 b2 c1 c2 c3 e1 e2 e3
  have fA := (HR.out.1.fc HX.out.1)
  rw [HM.out.1] at fA
  obtain ⟨fA, lA⟩ := fA
  have fB := (HR.out.2.1.fc HX.out.2)
  rw [HM.out.2.1] at fB
  obtain ⟨fB, lB⟩ := fB
  go_upto_region 22 with fail
  clear fA fB lA lB
  go_wp2_with fail
  go_loopg [17] n (fun g z wx => wx = w6 ∧ ∃ i : Nat, z = .int .i64 (i : Int) ∧ i ≤ n ∧ n - i ≤ g)
  case atStart => exact ⟨rfl, 0, rfl, by omega, by omega⟩
  case round =>
    obtain ⟨hw6, i, rfl, hi, hg⟩ := hrel
    obtain rfl := hw6.symm
    obtain ⟨gO, rfl⟩ : ∃ gO, gO = gk := ⟨_, rfl⟩
    rcases (show n = i ∨ i < n by omega) with he | hlt
    · obtain rfl := he
      go_wp2_with fail
      go_ret
      exact ⟨rfl, HF.out.1⟩
    · have HIL : Hid (i < fs.length) := Lib.hid (by rw [HI.out.2.2]; exact hlt)
      obtain ⟨fA, lA⟩ := HR.out.1.fc HIL.out
      obtain ⟨fB, lB⟩ := HR.out.2.1.fc HIL.out
      obtain ⟨fC, lC⟩ := HR.out.2.2.1.fc HIL.out
      obtain ⟨fD, lD⟩ := HR.out.2.2.2.fc HIL.out
      rw [HM.out.2.2.1] at fC
      rw [HM.out.2.2.2] at fD
      obtain ⟨xa, hxa⟩ : ∃ xa, dA (cf i) = xa := ⟨_, rfl⟩
      obtain ⟨xb, hxb⟩ : ∃ xb, dB (cf i) = xb := ⟨_, rfl⟩
      rw [hxa] at fA
      rw [hxb] at fB
      rw [hxa, hxb] at fC fD
      clear hxa hxb
      obtain ⟨xc, hxc⟩ : ∃ xc, (xa || xb) = xc := ⟨_, rfl⟩
      rw [hxc] at fC fD
      have HXC := Lib.hid hxc
      clear hxc
      go_upto_region 25 with fail
      go_cut [18] (fun v wc => wc = w6 ∧ ∃ bv : Bool, v = .bool bv ∧ Hid (bv = (xa || xb)))
      case first =>
        cases xa <;> cases xb
        all_goals
          go_wp2_with fail
          go_meet
          exact ⟨rfl, _, rfl, Lib.hid rfl⟩
      case rest =>
        obtain ⟨hwc, bv, rfl, hbv⟩ := hcut
        obtain rfl := hwc.symm
        have HBV := Lib.hid (hbv.out.trans HXC.out)
        clear hbv hwc
        obtain rfl : bv = xc := HBV.out
        clear fA fB lA lB
        obtain ⟨b9, off9, h99, lb, ra, rc', pa, pc, _, _, _, _, e4, _, _⟩ := HF.out.2.at (i := i) HIL.out
        cases h99
        have c4 : w6.cell? ⟨Fc, 0 + i * 5 + 4, none⟩ = some (.slice pa (wf fs i).ps.length pc) := e4
        rw [Nat.zero_add] at c4
        obtain ⟨m2, hm2⟩ : ∃ m, (wf fs i).ps.length = m := ⟨_, rfl⟩
        rw [hm2] at c4
        have hm20 : m2 ≤ 1048576 := by rw [← hm2]; exact HOK.out.pl i HIL.out
        have HM2 := Lib.hid hm2
        clear hm2 e4
        go_upto_region 29 with fail
        clear fC fD lC lD
        go_wp2_with fail
        go_loopg [19] m2 (fun g z wx => wx = w6 ∧ ∃ j : Nat, z = .int .i64 (j : Int) ∧ j ≤ m2 ∧ m2 - j ≤ g)
        case atStart => exact ⟨rfl, 0, rfl, by omega, by omega⟩
        case round =>
          obtain ⟨hw7, j, rfl, hj, hgj⟩ := hrel
          obtain rfl := hw7.symm
          rcases (show m2 = j ∨ j < m2 by omega) with he | hltj
          · obtain rfl := he
            go_wp2_with fail
            go_roundg (gO - 1)
            case measure => omega
            case rel => exact ⟨rfl, i + 1, by go_num, by omega, by omega⟩
          · have HJ1 := Lib.hid (And.intro hltj hgj)
            have HJL : Hid (j < (wf fs i).ps.length) := Lib.hid (by rw [HM2.out]; exact hltj)
            obtain ⟨qA, lqA, pA, lpA, tA, ltA⟩ := HR.out.1.pc HIL.out HJL.out
            obtain ⟨qB, lqB, pB, lpB, tB, ltB⟩ := HR.out.2.1.pc HIL.out HJL.out
            obtain ⟨qC, lqC, pC, lpC, tC, ltC⟩ := HR.out.2.2.1.pc HIL.out HJL.out
            obtain ⟨qD, lqD, pD, lpD, tD, ltD⟩ := HR.out.2.2.2.pc HIL.out HJL.out
            rw [HM2.out] at pA pB pC pD
            rw [HM.out.2.2.1] at tC
            rw [HM.out.2.2.2] at tD
            obtain ⟨ya, hya⟩ : ∃ xa, dA (cp i j) = xa := ⟨_, rfl⟩
            obtain ⟨yb, hyb⟩ : ∃ xb, dB (cp i j) = xb := ⟨_, rfl⟩
            rw [hya] at tA
            rw [hyb] at tB
            rw [hya, hyb] at tC tD
            clear hya hyb
            obtain ⟨yc, hyc⟩ : ∃ xc, (ya || yb) = xc := ⟨_, rfl⟩
            rw [hyc] at tC tD
            have HYC := Lib.hid hyc
            clear hyc
            go_upto_region 31 with fail
            go_cut [20] (fun v wc => wc = w6 ∧ ∃ bv : Bool, v = .bool bv ∧ Hid (bv = (ya || yb)))
            case first =>
              cases ya <;> cases yb
              all_goals
                go_wp2_with fail
                go_meet
                exact ⟨rfl, _, rfl, Lib.hid rfl⟩
            case rest =>
              obtain ⟨hwc, bw, rfl, hbv⟩ := hcut
              obtain rfl := hwc.symm
              have HBW := Lib.hid (hbv.out.trans HYC.out)
              clear hbv hwc
              obtain rfl : bw = yc := HBW.out
              clear qA pA tA qB pB tB lqA lpA ltA lqB lpB ltB
              go_wp2_with fail
              go_roundg (gk - 1)
              case measure => have := HJ1.out; omega
              case rel => exact ⟨rfl, j + 1, by go_num, by have := HJ1.out; omega, by have := HJ1.out; omega⟩
end Go.Proofs.Ytebecbidodnneaa
