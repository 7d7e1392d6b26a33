/-
  The law's test of its files: each leads to a file, a record, a part that is there. No statement of the seat is proved here.
-/
import Derived.Test.YtebecbidodnneaaZb
namespace Go.Proofs.Ytebecbidodnneaa
open Go.RowKit
set_option linter.unusedVariables false
set_option linter.unusedSimpArgs false

theorem gb_drewN (w : World) (d : Nat) : w.grownBy (w.drewN d) none := ⟨rfl, rfl, rfl, Nat.le_refl _, fun _ _ _ => rfl⟩
/-- one part, one file, well formed -/
structure Wp (fs : List Wf) (ms : Nat) (p : Pt) : Prop where
  rz : ∀ k, k < p.rz.length → nth p.rz k < (ms : Int)
  dz : ∀ k, k < p.dz.length → (dp p.dz k).1 < (fs.length : Int) ∧ (dp p.dz k).2 < ((wf fs (dp p.dz k).1.toNat).ps.length : Int)
structure Wv (fs : List Wf) (z : Wf) : Prop where
  css : z.css < (fs.length : Int)
  tg : ∀ j, j < z.rs.length → (rc z.rs j).tg < (fs.length : Int)
  ps : ∀ j, j < z.ps.length → Wp fs z.rs.length (pt z.ps j)
theorem oke_of {fs : List Wf} {n : Nat} (hn : fs.length = n) (hn4 : n ≤ 4096) (hbz : ∀ v, v < n → Bz (wf fs v)) (hok : ∀ v, v < fs.length → OkF (wf fs v)) (hwv : ∀ v, v < n → Wv fs (wf fs v)) : OkE fs := by
  subst hn
  exact ⟨hn4, fun v hv => (hwv v hv).css, fun v hv => (hbz v hv).rl, fun v hv j hj => (hwv v hv).tg j hj, fun v hv => (hbz v hv).pl, fun v hv j hj => (hbz v hv).zl j hj,
    fun v hv j hj k hk => ⟨(((hok v hv).ps j hj).rz k hk).1, ((hwv v hv).ps j hj).rz k hk⟩,
    fun v hv j hj k hk => ⟨(((hok v hv).ps j hj).dz k hk).1.1, (((hwv v hv).ps j hj).dz k hk).1, (((hok v hv).ps j hj).dz k hk).2.1, (((hwv v hv).ps j hj).dz k hk).2⟩⟩
def WlB (fs : List Wf) (w : World) (e : Ending) (w' : World) : Prop := ∃ b : Bool, e = .returned (.bool b) ∧ (b = true → OkE fs) ∧ w.grownBy w' none
set_option maxHeartbeats 0 in
set_option maxRecDepth 100000 in
theorem wl_any (ao : Option Addr) (n cap : Nat) (fs : List Wf) (hn : fs.length = n) (hn4 : n ≤ 4096) (hbz : ∀ v, v < n → Bz (wf fs v)) (hok : ∀ v, v < fs.length → OkF (wf fs v)) (w : World) (hin : InS w ao fs 5 FAt) :
    Calls Try.prog 6 #[.slice ao n cap] w (WlB fs w) := by
  have HN := Lib.hid (And.intro hn (And.intro hin (And.intro hbz hok)))
  have HF := Lib.hid (oke_of hn hn4 hbz hok)
  clear hn hin hbz hok
  go_enter Try.func6, Try.ntmps6
  go_wp2_with fail
  go_loopg [4] n (fun k y wr => ∃ (i : Nat), y = .int .i64 (i : Int) ∧ i ≤ n ∧ n - i ≤ k ∧ Hid (w.grownBy wr none ∧ ∀ v, v < i → Wv fs (wf fs v)))
  case atStart => exact ⟨0, rfl, by omega, by omega, Lib.hid ⟨gb_refl _ _, fun v hv => by omega⟩⟩
  case round =>
    obtain ⟨i, rfl, hi, hk, HB⟩ := hrel
    obtain ⟨wz, rfl⟩ : ∃ wz : World, wz = wr := ⟨_, rfl⟩
    obtain ⟨gO, rfl⟩ : ∃ gO, gO = gk := ⟨_, rfl⟩
    rcases (show n = i ∨ i < n by omega) with he | hlt
    · obtain rfl := he
      go_wp2_with fail
      go_ret
      exact ⟨true, rfl, fun _ => HF.out HB.out.2, HB.out.1⟩
    · have hin := HN.out.2.1.kept kAF (below_of HB.out.1)
      obtain ⟨b', off, rfl, lb, ra, rc', pa, pc, c0, c1, c2, c3, c4, hrs, hps⟩ := hin.at (i := i) (by rw [HN.out.1]; exact hlt)
      change wz.cell? ⟨b', off + i * 5, none⟩ = some (.int .i32 (wf fs i).css) at c0
      change wz.cell? ⟨b', off + i * 5 + 1, none⟩ = some (.bool (wf fs i).se) at c1
      change wz.cell? ⟨b', off + i * 5 + 2, none⟩ = some (.bool (wf fs i).lv) at c2
      change wz.cell? ⟨b', off + i * 5 + 3, none⟩ = some (.slice ra (wf fs i).rs.length rc') at c3
      change wz.cell? ⟨b', off + i * 5 + 4, none⟩ = some (.slice pa (wf fs i).ps.length pc) at c4
      change InS wz ra (wf fs i).rs 3 RAt at hrs
      change InS wz pa (wf fs i).ps 4 PAt at hps
      have hbz := HN.out.2.2.1 i hlt
      have hok := HN.out.2.2.2 i (by rw [HN.out.1]; exact hlt)
      obtain ⟨z, hz⟩ : ∃ z, wf fs i = z := ⟨_, rfl⟩
      rw [hz] at c0 c1 c2 c3 c4 hrs hps hbz hok
      obtain ⟨m1, hm1⟩ : ∃ m, z.rs.length = m := ⟨_, rfl⟩
      obtain ⟨m2, hm2⟩ : ∃ m, z.ps.length = m := ⟨_, rfl⟩
      obtain ⟨x, hx⟩ : ∃ m, z.css = m := ⟨_, rfl⟩
      obtain ⟨se, hse⟩ : ∃ m, z.se = m := ⟨_, rfl⟩
      obtain ⟨lv, hlv⟩ : ∃ m, z.lv = m := ⟨_, rfl⟩
      rw [hm1] at c3
      rw [hm2] at c4
      rw [hx] at c0
      rw [hse] at c1
      rw [hlv] at c2
      have hx1 : -2147483648 ≤ x ∧ x < 2147483648 := by rw [← hx]; exact hok.css
      have bm1 : m1 ≤ 1048576 := by rw [← hm1]; exact hbz.rl
      have bm2 : m2 ≤ 1048576 := by rw [← hm2]; exact hbz.pl
      have HZ := Lib.hid (And.intro hz (And.intro hm1 (And.intro hm2 (And.intro hx (And.intro hbz hok)))))
      have HR := Lib.hid (And.intro hrs hps)
      have HLB := Lib.hid lb
      clear hz hm1 hm2 hx hse hlv hrs hps hbz hok hin
      obtain ⟨Q, hQ⟩ : ∃ Q, wz.heap.size = Q := ⟨_, rfl⟩
      go_upto_region 6 with fail
      clear c0 c1 c2 c3 c4 lb
      have H3 : Hid (wz.grownBy (wz.alloc (.cells #[.int .i32 x, .bool se, .bool lv, .slice ra m1 rc', .slice pa m2 pc] 64)) none ∧ Blk (wz.alloc (.cells #[.int .i32 x, .bool se, .bool lv, .slice ra m1 rc', .slice pa m2 pc] 64)) Q 64 #[.int .i32 x, .bool se, .bool lv, .slice ra m1 rc', .slice pa m2 pc]) := Lib.hid (by
        refine ⟨gb_alloc (gb_refl _ _) _, ?_⟩
        have := Blk.new wz 64 #[.int .i32 x, .bool se, .bool lv, .slice ra m1 rc', .slice pa m2 pc]
        rwa [hQ] at this)
      clear hQ
      generalize wz.alloc (.cells #[.int .i32 x, .bool se, .bool lv, .slice ra m1 rc', .slice pa m2 pc] 64) = w3 at H3 ⊢
      have q0 : w3.cell? ⟨Q, 0, none⟩ = some (.int .i32 x) := H3.out.2.cell 0
      have q3 : w3.cell? ⟨Q, 3, none⟩ = some (.slice ra m1 rc') := H3.out.2.cell 3
      have q4 : w3.cell? ⟨Q, 4, none⟩ = some (.slice pa m2 pc) := H3.out.2.cell 4
      have lQ := H3.out.2.lt
      have H4 := Lib.hid (And.intro (gb_trans HB.out.1 H3.out.1) (And.intro (HR.out.1.kept kAR (below_of H3.out.1)) (HR.out.2.kept kAP (below_of H3.out.1))))
      by_cases t1 : x < -1
      · go_wp2_with fail
        go_ret
        exact ⟨false, rfl, by simp, H4.out.1⟩
      have d1 : decide (x < -1) = false := by simp; omega
      by_cases t2 : (n : Int) ≤ x
      · have d2 : decide ((n : Int) ≤ x) = true := by simp [t2]
        go_wp2_with fail
        go_ret
        exact ⟨false, rfl, by simp, H4.out.1⟩
      have d2 : decide ((n : Int) ≤ x) = false := by simp; omega
      go_wp2_with fail
      clear q0 d1 d2
      go_loopg [6] m1 (fun k y wr => ∃ (j : Nat), y = .int .i64 (j : Int) ∧ j ≤ m1 ∧ m1 - j ≤ k ∧ wr = w3 ∧ Hid (∀ v, v < j → (rc z.rs v).tg < (n : Int)))
      case atStart => exact ⟨0, rfl, by omega, by omega, rfl, Lib.hid (fun v hv => by omega)⟩
      case round =>
        obtain ⟨j, rfl, hj, hkj, rfl, HJ⟩ := hrel
        obtain ⟨w3, rfl⟩ : ∃ w3 : World, w3 = wr := ⟨_, rfl⟩
        rcases (show m1 = j ∨ j < m1 by omega) with he | hltj
        · obtain rfl := he
          go_wp2_with fail
          clear q3 q4 lQ
          go_loopg [8] m2 (fun k y wr => ∃ (j : Nat), y = .int .i64 (j : Int) ∧ j ≤ m2 ∧ m2 - j ≤ k ∧ Hid (w3.grownBy wr none ∧ ∀ v, v < j → Wp fs z.rs.length (pt z.ps v)))
          case atStart => exact ⟨0, rfl, by omega, by omega, Lib.hid ⟨gb_refl _ _, fun v hv => by omega⟩⟩
          case round =>
            obtain ⟨j, rfl, hj, hkj, HP⟩ := hrel
            obtain ⟨wy, rfl⟩ : ∃ wy : World, wy = wr := ⟨_, rfl⟩
            obtain ⟨gP, rfl⟩ : ∃ gP, gP = gk := ⟨_, rfl⟩
            have hqy := H3.out.2.gb HP.out.1 (by simp)
            have q3 : wy.cell? ⟨Q, 3, none⟩ = some (.slice ra m1 rc') := hqy.cell 3
            have q4 : wy.cell? ⟨Q, 4, none⟩ = some (.slice pa m2 pc) := hqy.cell 4
            have lQ := hqy.lt
            have HQY := Lib.hid hqy
            clear hqy
            rcases (show m2 = j ∨ j < m2 by omega) with he | hltj
            · obtain rfl := he
              go_wp2_with fail
              go_roundg (gO - 1)
              case measure => omega
              case rel =>
                refine ⟨i + 1, by go_num, by omega, by omega, Lib.hid ⟨gb_trans H4.out.1 HP.out.1, fun v hv => ?_⟩⟩
                rcases (show v < i ∨ v = i by omega) with h | rfl
                · exact HB.out.2 v h
                · rw [HZ.out.1]
                  refine ⟨by rw [HZ.out.2.2.2.1, HN.out.1]; omega, fun j hj => by rw [HN.out.1]; exact HJ.out j (by rw [HZ.out.2.1] at hj; exact hj), fun j hj => HP.out.2 j (by rw [HZ.out.2.2.1] at hj; exact hj)⟩
            · have hps := H4.out.2.2.kept kAP (below_of HP.out.1)
              obtain ⟨b2, off2, rfl, lb2, ia, ic, da, dc, k0, k1, k2, k3, hri, hdi⟩ := hps.at (i := j) (by rw [HZ.out.2.2.1]; exact hltj)
              change wy.cell? ⟨b2, off2 + j * 4, none⟩ = some (.slice ia (pt z.ps j).rz.length ic) at k0
              change wy.cell? ⟨b2, off2 + j * 4 + 1, none⟩ = some (.slice da (pt z.ps j).dz.length dc) at k1
              change wy.cell? ⟨b2, off2 + j * 4 + 2, none⟩ = some (.bool (pt z.ps j).cb) at k2
              change wy.cell? ⟨b2, off2 + j * 4 + 3, none⟩ = some (.bool (pt z.ps j).fb) at k3
              change In .u32 wy ia (pt z.ps j).rz at hri
              change InS wy da (pt z.ps j).dz 2 DAt at hdi
              have hokp := HZ.out.2.2.2.2.2.ps j (by rw [HZ.out.2.2.1]; exact hltj)
              have hzl := HZ.out.2.2.2.2.1.zl j (by rw [HZ.out.2.2.1]; exact hltj)
              obtain ⟨p, hp⟩ : ∃ p, pt z.ps j = p := ⟨_, rfl⟩
              rw [hp] at k0 k1 k2 k3 hri hdi hokp hzl
              obtain ⟨m3, hm3⟩ : ∃ m, p.rz.length = m := ⟨_, rfl⟩
              obtain ⟨m4, hm4⟩ : ∃ m, p.dz.length = m := ⟨_, rfl⟩
              obtain ⟨cb, hcb⟩ : ∃ m, p.cb = m := ⟨_, rfl⟩
              obtain ⟨fb, hfb⟩ : ∃ m, p.fb = m := ⟨_, rfl⟩
              rw [hm3] at k0 hzl
              rw [hm4] at k1 hzl
              rw [hcb] at k2
              rw [hfb] at k3
              obtain ⟨bm3, bm4⟩ := hzl
              have HPZ := Lib.hid (And.intro hp (And.intro hm3 (And.intro hm4 hokp)))
              have HRD := Lib.hid (And.intro hri hdi)
              clear hp hm3 hm4 hcb hfb hri hdi hokp hps
              obtain ⟨Q2, hQ2⟩ : ∃ Q, wy.heap.size = Q := ⟨_, rfl⟩
              go_upto_region 18 with fail
              clear k0 k1 k2 k3 q3 q4 lQ lb2
              have H5 : Hid (wy.grownBy (wy.alloc (.cells #[.slice ia m3 ic, .slice da m4 dc, .bool cb, .bool fb] 126)) none ∧ Blk (wy.alloc (.cells #[.slice ia m3 ic, .slice da m4 dc, .bool cb, .bool fb] 126)) Q2 126 #[.slice ia m3 ic, .slice da m4 dc, .bool cb, .bool fb]) := Lib.hid (by
                refine ⟨gb_alloc (gb_refl _ _) _, ?_⟩
                have := Blk.new wy 126 #[.slice ia m3 ic, .slice da m4 dc, .bool cb, .bool fb]
                rwa [hQ2] at this)
              clear hQ2
              generalize wy.alloc (.cells #[.slice ia m3 ic, .slice da m4 dc, .bool cb, .bool fb] 126) = w5 at H5 ⊢
              have H6 := Lib.hid (And.intro (gb_trans HP.out.1 H5.out.1) (And.intro (HRD.out.1.kept (below_of H5.out.1)) (And.intro (HRD.out.2.kept kAD (below_of H5.out.1)) (HQY.out.gb H5.out.1 (by simp)))))
              go_wp2_with fail
              go_loopg [10] m3 (fun k y wr => ∃ (j : Nat), y = .int .i64 (j : Int) ∧ j ≤ m3 ∧ m3 - j ≤ k ∧ Hid (w5.grownBy wr none ∧ ∀ v, v < j → nth p.rz v < (m1 : Int)))
              case atStart => exact ⟨0, rfl, by omega, by omega, Lib.hid ⟨gb_refl _ _, fun v hv => by omega⟩⟩
              case round =>
                obtain ⟨k, rfl, hkk, hkm, HK⟩ := hrel
                obtain ⟨wx, rfl⟩ : ∃ wx : World, wx = wr := ⟨_, rfl⟩
                have hq2 := H5.out.2.gb HK.out.1 (by simp)
                have r0 : wx.cell? ⟨Q2, 0, none⟩ = some (.slice ia m3 ic) := hq2.cell 0
                have lQ2 := hq2.lt
                have hq1 := H6.out.2.2.2.gb HK.out.1 (by simp)
                have q3 : wx.cell? ⟨Q, 3, none⟩ = some (.slice ra m1 rc') := hq1.cell 3
                have lQ := hq1.lt
                clear hq2 hq1
                rcases (show m3 = k ∨ k < m3 by omega) with he | hltk
                · obtain rfl := he
                  go_wp2_with fail
                  clear r0 q3 lQ lQ2
                  go_loopg [11] m4 (fun k y wr => ∃ (j : Nat), y = .int .i64 (j : Int) ∧ j ≤ m4 ∧ m4 - j ≤ k ∧ Hid (w5.grownBy wr none ∧ ∀ v, v < j → (dp p.dz v).1 < (fs.length : Int) ∧ (dp p.dz v).2 < ((wf fs (dp p.dz v).1.toNat).ps.length : Int)))
                  case atStart => exact ⟨0, rfl, by omega, by omega, Lib.hid ⟨HK.out.1, fun v hv => by omega⟩⟩
                  case round =>
                    obtain ⟨k, rfl, hkk, hkm, HE⟩ := hrel
                    obtain ⟨wv, rfl⟩ : ∃ wv : World, wv = wr := ⟨_, rfl⟩
                    have hq2 := H5.out.2.gb HE.out.1 (by simp)
                    have r1 : wv.cell? ⟨Q2, 1, none⟩ = some (.slice da m4 dc) := hq2.cell 1
                    have lQ2 := hq2.lt
                    clear hq2
                    rcases (show m4 = k ∨ k < m4 by omega) with he | hltk
                    · obtain rfl := he
                      go_wp2_with fail
                      go_roundg (gP - 1)
                      case measure => omega
                      case rel =>
                        refine ⟨j + 1, by go_num, by omega, by omega, Lib.hid ⟨gb_trans H6.out.1 HE.out.1, fun v hv => ?_⟩⟩
                        rcases (show v < j ∨ v = j by omega) with h | rfl
                        · exact HP.out.2 v h
                        · rw [HPZ.out.1, HZ.out.2.1]
                          exact ⟨fun k hk => HK.out.2 k (by rw [HPZ.out.2.1] at hk; exact hk), fun k hk => HE.out.2 k (by rw [HPZ.out.2.2.1] at hk; exact hk)⟩
                    · have hdi := H6.out.2.2.1.kept kAD (below_of HE.out.1)
                      obtain ⟨b4, off4, rfl, lb4, s0, s1⟩ := hdi.at (i := k) (by rw [HPZ.out.2.2.1]; exact hltk)
                      change wv.cell? ⟨b4, off4 + k * 2, none⟩ = some (.int .u32 (dp p.dz k).1) at s0
                      change wv.cell? ⟨b4, off4 + k * 2 + 1, none⟩ = some (.int .u32 (dp p.dz k).2) at s1
                      have hd := HPZ.out.2.2.2.dz k (by rw [HPZ.out.2.2.1]; exact hltk)
                      obtain ⟨⟨e0, e1⟩, e2, e3⟩ := hd
                      obtain ⟨c, hc⟩ : ∃ c : Nat, (dp p.dz k).1 = (c : Int) := ⟨(dp p.dz k).1.toNat, by omega⟩
                      obtain ⟨e, he⟩ : ∃ e : Nat, (dp p.dz k).2 = (e : Int) := ⟨(dp p.dz k).2.toNat, by omega⟩
                      rw [hc] at s0 e0 e1
                      rw [he] at s1 e2 e3
                      have HCE := Lib.hid (And.intro hc he)
                      have wc : IntKind.i64.wrap (c : Int) = (c : Int) := by rw [IntKind.wrap_i64]; omega
                      have we : IntKind.u64.wrap (e : Int) = (e : Int) := by rw [IntKind.wrap_u64]; omega
                      clear hc he hdi
                      obtain ⟨Q3, hQ3⟩ : ∃ Q, wv.heap.size = Q := ⟨_, rfl⟩
                      go_upto_region 27 with fail
                      clear s0 s1 r1 lQ2 lb4
                      have H7 : Hid (wv.grownBy (wv.alloc (.cells #[.int .u32 (c : Int), .int .u32 (e : Int)] 130)) none ∧ Blk (wv.alloc (.cells #[.int .u32 (c : Int), .int .u32 (e : Int)] 130)) Q3 130 #[.int .u32 (c : Int), .int .u32 (e : Int)]) := Lib.hid (by
                        refine ⟨gb_alloc (gb_refl _ _) _, ?_⟩
                        have := Blk.new wv 130 #[.int .u32 (c : Int), .int .u32 (e : Int)]
                        rwa [hQ3] at this)
                      clear hQ3
                      generalize wv.alloc (.cells #[.int .u32 (c : Int), .int .u32 (e : Int)] 130) = w7 at H7 ⊢
                      have u0 : w7.cell? ⟨Q3, 0, none⟩ = some (.int .u32 (c : Int)) := H7.out.2.cell 0
                      have u1 : w7.cell? ⟨Q3, 1, none⟩ = some (.int .u32 (e : Int)) := H7.out.2.cell 1
                      have lQ3 := H7.out.2.lt
                      have H8 := Lib.hid (gb_trans HE.out.1 H7.out.1)
                      by_cases t3 : (n : Int) ≤ (c : Int)
                      · have d3 : decide ((n : Int) ≤ (c : Int)) = true := by simp; omega
                        have d4 : decide (n ≤ c) = true := by simp; omega
                        go_wp2_with fail
                        go_ret
                        exact ⟨false, rfl, by simp, gb_trans (gb_trans H4.out.1 H6.out.1) H8.out⟩
                      · have d3 : decide ((n : Int) ≤ (c : Int)) = false := by simp; omega
                        have d4 : decide (n ≤ c) = false := by simp; omega
                        have hcn : c < n := by omega
                        have hin7 := HN.out.2.1.kept kAF (below_of (gb_trans (gb_trans H4.out.1 H6.out.1) H8.out))
                        obtain ⟨b8, off8, h88, lb8, _, _, pa8, pc8, _, _, _, _, f4, _, _⟩ := hin7.at (i := c) (by rw [HN.out.1]; exact hcn)
                        cases h88
                        change w7.cell? ⟨b', off + c * 5 + 4, none⟩ = some (.slice pa8 (wf fs c).ps.length pc8) at f4
                        have hb8 := (HN.out.2.2.1 c hcn).pl
                        obtain ⟨m8, hm8⟩ : ∃ m, (wf fs c).ps.length = m := ⟨_, rfl⟩
                        rw [hm8] at f4 hb8
                        have wm : IntKind.u64.wrap (m8 : Int) = (m8 : Int) := by rw [IntKind.wrap_u64]; omega
                        have HM8 := Lib.hid hm8
                        clear hin7 hm8
                        by_cases t5 : (m8 : Int) ≤ (e : Int)
                        · have d5 : decide ((m8 : Int) ≤ (e : Int)) = true := by simp; omega
                          have d6 : decide (m8 ≤ e) = true := by simp; omega
                          go_upto_region 29 with fail
                          go_quiet (fail)
                          go_wp2_with fail
                          go_ret
                          exact ⟨false, rfl, by simp, gb_trans (gb_trans (gb_trans H4.out.1 H6.out.1) H8.out) (gb_drewN _ _)⟩
                        · have d5 : decide ((m8 : Int) ≤ (e : Int)) = false := by simp; omega
                          have d6 : decide (m8 ≤ e) = false := by simp; omega
                          go_upto_region 29 with fail
                          go_quiet (fail)
                          go_wp2_with fail
                          go_roundg (gk - 1)
                          case measure => clear wc we wm; omega
                          case rel =>
                            clear wc we wm
                            refine ⟨k + 1, by go_num, by omega, by omega, Lib.hid ⟨gb_trans H8.out (gb_drewN _ _), fun v hv => ?_⟩⟩
                            rcases (show v < k ∨ v = k by omega) with h | rfl
                            · exact HE.out.2 v h
                            · rw [HCE.out.1, HCE.out.2, Int.toNat_natCast, HM8.out, HN.out.1]
                              exact ⟨by omega, by omega⟩
                · have hri := H6.out.2.1.kept (below_of HK.out.1)
                  obtain ⟨b3, off3, rfl, lb3, s0⟩ := hri.at (i := k) (by rw [HPZ.out.2.1]; exact hltk)
                  have hr := HPZ.out.2.2.2.rz k (by rw [HPZ.out.2.1]; exact hltk)
                  obtain ⟨c, hc⟩ : ∃ c : Nat, nth p.rz k = (c : Int) := ⟨(nth p.rz k).toNat, by omega⟩
                  rw [hc] at s0 hr
                  have HCC := Lib.hid hc
                  have wc : IntKind.u64.wrap (c : Int) = (c : Int) := by rw [IntKind.wrap_u64]; omega
                  have wm : IntKind.u64.wrap (m1 : Int) = (m1 : Int) := by rw [IntKind.wrap_u64]; omega
                  clear hc hri
                  by_cases t5 : (m1 : Int) ≤ (c : Int)
                  · have d5 : decide ((m1 : Int) ≤ (c : Int)) = true := by simp; omega
                    have d6 : decide (m1 ≤ c) = true := by simp; omega
                    go_upto_region 21 with fail
                    go_quiet (fail)
                    go_wp2_with fail
                    go_ret
                    exact ⟨false, rfl, by simp, gb_trans (gb_trans (gb_trans H4.out.1 H6.out.1) HK.out.1) (gb_drewN _ _)⟩
                  · have d5 : decide ((m1 : Int) ≤ (c : Int)) = false := by simp; omega
                    have d6 : decide (m1 ≤ c) = false := by simp; omega
                    go_upto_region 21 with fail
                    go_quiet (fail)
                    go_wp2_with fail
                    go_roundg (gk - 1)
                    case measure => clear wc wm; omega
                    case rel =>
                      clear wc wm
                      refine ⟨k + 1, by go_num, by omega, by omega, Lib.hid ⟨gb_trans HK.out.1 (gb_drewN _ _), fun v hv => ?_⟩⟩
                      rcases (show v < k ∨ v = k by omega) with h | rfl
                      · exact HK.out.2 v h
                      · rw [HCC.out]; omega
        · obtain ⟨b2, off2, rfl, lb2, s0, _⟩ := H4.out.2.1.at (i := j) (by rw [HZ.out.2.1]; exact hltj)
          change w3.cell? ⟨b2, off2 + j * 3, none⟩ = some (.int .i32 (rc z.rs j).tg) at s0
          have hr := (HZ.out.2.2.2.2.2.rs j (by rw [HZ.out.2.1]; exact hltj)).1
          obtain ⟨t, ht⟩ : ∃ t, (rc z.rs j).tg = t := ⟨_, rfl⟩
          rw [ht] at s0 hr
          have HT := Lib.hid ht
          clear ht
          by_cases t3 : t < -1
          · go_wp2_with fail
            go_ret
            exact ⟨false, rfl, by simp, H4.out.1⟩
          have d1 : decide (t < -1) = false := by simp; omega
          by_cases t4 : (n : Int) ≤ t
          · have d2 : decide ((n : Int) ≤ t) = true := by simp [t4]
            go_wp2_with fail
            go_ret
            exact ⟨false, rfl, by simp, H4.out.1⟩
          have d2 : decide ((n : Int) ≤ t) = false := by simp; omega
          go_wp2_with fail
          go_roundg (gk - 1)
          case measure => omega
          case rel =>
            refine ⟨j + 1, by go_num, by omega, by omega, rfl, Lib.hid (fun v hv => ?_)⟩
            rcases (show v < j ∨ v = j by omega) with h | rfl
            · exact HJ.out v h
            · rw [HT.out]; omega
end Go.Proofs.Ytebecbidodnneaa
