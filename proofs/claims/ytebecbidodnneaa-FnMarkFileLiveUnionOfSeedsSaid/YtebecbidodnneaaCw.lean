/-
  The law's copy of its files, walked. No statement of the seat is proved here.
-/
import Derived.Test.YtebecbidodnneaaCl
import Derived.Deep.CutBlock
import Derived.Lib.SliceRun
namespace Go.Proofs.Ytebecbidodnneaa
open Go.RowKit
set_option linter.unusedVariables false
set_option linter.unusedSimpArgs false

def ClE (fs : List Wf) (n : Nat) (w : World) (e : Ending) (w' : World) : Prop := ∃ F, e = .returned (.slice (some ⟨F, 0, none⟩) n n) ∧ InS w' (some ⟨F, 0, none⟩) fs 5 FAt ∧ w.grownBy w' none
set_option maxHeartbeats 0 in
set_option maxRecDepth 100000 in
theorem cl_any (ao : Option Addr) (n cap : Nat) (fs : List Wf) (hn : fs.length = n) (hn0 : 0 < n) (hn4 : n ≤ 4096) (hbz : ∀ v, v < n → Bz (wf fs v)) (w : World) (hin : InS w ao fs 5 FAt) :
    Calls Try.prog 7 #[.slice ao n cap] w (ClE fs n w) := by
  obtain ⟨b', off, rfl, lbw, _⟩ := hin.at (i := 0) (by omega)
  have hnil := fun (w : World) => Lib.run_eql_slice_nil (P := Try.prog) w 22 64 (some ⟨b', off, none⟩) n cap 0 0 Try.underlying22
  have HN := Lib.hid (And.intro hn (And.intro hin hbz))
  clear hn hin hbz
  obtain ⟨F, hF⟩ : ∃ F, w.heap.size = F := ⟨_, rfl⟩
  go_enter Try.func7, Try.ntmps7
  go_upto_region 4 with (at_make; refine wpList_make_blk w rfl _ _ 22 rfl 64 (.agg z64) 5 56 Try.underlying22 zinfo64 n rfl rfl (by omega) (by unfold maxLen; omega) ?_; intro w1 hb1 hg1; have H1 := Lib.hid (And.intro hb1 hg1); clear hb1 hg1)
  try rw [hF]
  have H0 : Hid (Cq w w1 F n 0 fs) := Lib.hid (by
    have h := H1.out.1
    rw [hF] at h
    exact ⟨⟨_, h, by simp [madeCells], fun v hv => by omega⟩, H1.out.2⟩)
  have HFW : Hid (w.heap.size ≤ F) := Lib.hid (by omega)
  clear H1 hF hnil lbw
  go_wp2_with fail
  go_loopg [4] n (fun g x wx => ∃ i : Nat, x = .int .i64 (i : Int) ∧ i ≤ n ∧ n - i ≤ g ∧ Hid (Cq w wx F n i fs))
  case atStart => exact ⟨0, rfl, by omega, by omega, H0⟩
  case round =>
    obtain ⟨i, rfl, hi, hk, HB⟩ := hrel
    obtain ⟨wz, rfl⟩ : ∃ wz : World, wz = wr := ⟨_, rfl⟩
    obtain ⟨gO, rfl⟩ : ∃ gO, gO = gk := ⟨_, rfl⟩
    rcases (show n = i ∨ i < n by omega) with he | hlt
    · obtain rfl := he
      go_wp2_with fail
      go_ret
      obtain ⟨⟨cs, h1, h2, h3⟩, hg⟩ := HB.out
      exact ⟨F, rfl, fs_in h1 (fun v hv => h3 v (by rw [HN.out.1] at hv; exact hv)), hg⟩
    · obtain ⟨b9, off9, h99, lb0, ra, rc', pa, pc, e0, e1, e2, e3, e4, hrs, hps⟩ := HN.out.2.1.at (i := i) (by rw [HN.out.1]; exact hlt)
      cases h99
      have hbl := below_of HB.out.2
      have c0 : wz.cell? ⟨b', off + i * 5, none⟩ = some (.int .i32 (wf fs i).css) := cell_k hbl lb0 e0
      have c1 : wz.cell? ⟨b', off + i * 5 + 1, none⟩ = some (.bool (wf fs i).se) := cell_k hbl lb0 e1
      have c2 : wz.cell? ⟨b', off + i * 5 + 2, none⟩ = some (.bool (wf fs i).lv) := cell_k hbl lb0 e2
      have c3 : wz.cell? ⟨b', off + i * 5 + 3, none⟩ = some (.slice ra (wf fs i).rs.length rc') := cell_k hbl lb0 e3
      have c4 : wz.cell? ⟨b', off + i * 5 + 4, none⟩ = some (.slice pa (wf fs i).ps.length pc) := cell_k hbl lb0 e4
      have lb : b' < wz.heap.size := Nat.lt_of_lt_of_le lb0 HB.out.2.size
      change InS w ra (wf fs i).rs 3 RAt at hrs
      change InS w pa (wf fs i).ps 4 PAt at hps
      clear e0 e1 e2 e3 e4 lb0 hbl
      have hbz := HN.out.2.2 i hlt
      obtain ⟨z, hz⟩ : ∃ z, wf fs i = z := ⟨_, rfl⟩
      rw [hz] at c0 c1 c2 c3 c4 hrs hps hbz
      obtain ⟨m1, hm1⟩ : ∃ m, z.rs.length = m := ⟨_, rfl⟩
      obtain ⟨m2, hm2⟩ : ∃ m, z.ps.length = m := ⟨_, rfl⟩
      obtain ⟨x, hx⟩ : ∃ m, z.css = m := ⟨_, rfl⟩
      obtain ⟨se, hse⟩ : ∃ m, z.se = m := ⟨_, rfl⟩
      obtain ⟨lv, hlv⟩ : ∃ m, z.lv = m := ⟨_, rfl⟩
      rw [hm1] at c3
      rw [hm2] at c4
      rw [hx] at c0
      rw [hse] at c1
      rw [hlv] at c2
      have bm1 : m1 ≤ 1048576 := by rw [← hm1]; exact hbz.rl
      have bm2 : m2 ≤ 1048576 := by rw [← hm2]; exact hbz.pl
      have HZ := Lib.hid (And.intro hz (And.intro hm1 (And.intro hm2 (And.intro hx (And.intro hse (And.intro hlv hbz))))))
      have HR := Lib.hid (And.intro hrs hps)
      clear hz hm1 hm2 hx hse hlv hrs hps hbz
      obtain ⟨Q, hQ⟩ : ∃ Q, wz.heap.size = Q := ⟨_, rfl⟩
      go_upto_region 8 with fail
      clear c0 c1 c2 c3 c4 lb
      have H3 : Hid (wz.grownBy (wz.alloc (.cells #[.int .i32 x, .bool se, .bool lv, .slice ra m1 rc', .slice pa m2 pc] 64)) none ∧ Blk (wz.alloc (.cells #[.int .i32 x, .bool se, .bool lv, .slice ra m1 rc', .slice pa m2 pc] 64)) Q 64 #[.int .i32 x, .bool se, .bool lv, .slice ra m1 rc', .slice pa m2 pc]) := Lib.hid (by
        refine ⟨gb_alloc (gb_refl _ _) _, ?_⟩
        have := Blk.new wz 64 #[.int .i32 x, .bool se, .bool lv, .slice ra m1 rc', .slice pa m2 pc]
        rwa [hQ] at this)
      have HQ := Lib.hid hQ
      clear hQ
      generalize wz.alloc (.cells #[.int .i32 x, .bool se, .bool lv, .slice ra m1 rc', .slice pa m2 pc] 64) = w3 at H3 ⊢
      obtain ⟨⟨cs, hF1, hF2, hF3⟩, hFg⟩ := HB.out
      have HQF : Hid (Q ≠ F) := Lib.hid (by have := hF1.lt; have := HQ.out; omega)
      have HC3 := Lib.hid (And.intro (hF1.gb H3.out.1 (by simp)) (And.intro hF2 (And.intro (fun v hv => (hF3 v hv).kt (kt_gb H3.out.1) (kt_gb H3.out.1) (kt_gb H3.out.1) (kt_gb H3.out.1)) (gb_trans hFg H3.out.1))))
      have q0 : w3.cell? ⟨Q, 0, none⟩ = some (.int .i32 x) := H3.out.2.cell 0
      have q1 : w3.cell? ⟨Q, 1, none⟩ = some (.bool se) := H3.out.2.cell 1
      have q2 : w3.cell? ⟨Q, 2, none⟩ = some (.bool lv) := H3.out.2.cell 2
      have q3 : w3.cell? ⟨Q, 3, none⟩ = some (.slice ra m1 rc') := H3.out.2.cell 3
      have q4 : w3.cell? ⟨Q, 4, none⟩ = some (.slice pa m2 pc) := H3.out.2.cell 4
      have lQ := H3.out.2.lt
      clear hF1 hF2 hF3 hFg
      obtain ⟨u0, u1, u2, u3, u4, g0, f0, g1, f1, g2, f2, g3, f3, g4, f4⟩ := put5 HC3.out.1 (i * 5) (by rw [HC3.out.2.1]; omega) (.int .i32 x) (.bool se) (.bool lv) (.slice ra m1 rc')
      have lF := HC3.out.1.lt
      have H4 : Hid (∃ cs4, Blk (w3.setCells F (i * 5) [.int .i32 x, .bool se, .bool lv, .slice ra m1 rc', .slice pa m2 pc]) F 64 cs4 ∧ cs4.size = cs.size ∧ (∀ j, j < i * 5 ∨ i * 5 + 5 ≤ j → cs4[j]? = cs[j]?) ∧ (∀ j, j < 5 → cs4[i * 5 + j]? = ([.int .i32 x, .bool se, .bool lv, .slice ra m1 rc', .slice pa m2 pc] : List Value)[j]?) ∧ w3.grownBy (w3.setCells F (i * 5) [.int .i32 x, .bool se, .bool lv, .slice ra m1 rc', .slice pa m2 pc]) (some F)) := Lib.hid (by
        obtain ⟨ds, d1, d2, d3, d4⟩ := setCells_mid [.int .i32 x, .bool se, .bool lv, .slice ra m1 rc', .slice pa m2 pc] (i * 5) w3 cs HC3.out.1 (by rw [HC3.out.2.1]; simp; omega)
        exact ⟨ds, d1, d2, d3, d4, setCells_gb _ _ _⟩)
      go_upto_region 9 with fail
      change Code.wp _ _ _ _ (w3.setCells F (i * 5) [.int .i32 x, .bool se, .bool lv, .slice ra m1 rc', .slice pa m2 pc])
      clear q0 q1 q2 q3 q4 lQ g0 f0 g1 f1 g2 f2 g3 f3 g4 f4 lF u0 u1 u2 u3 u4
      generalize w3.setCells F (i * 5) [.int .i32 x, .bool se, .bool lv, .slice ra m1 rc', .slice pa m2 pc] = w4 at H4 ⊢
      have H5 : Hid (Cf w w4 F n i fs Q #[.int .i32 x, .bool se, .bool lv, .slice ra m1 rc', .slice pa m2 pc] (.slice ra m1 rc') (.slice pa m2 pc)) := Lib.hid (by
        obtain ⟨cs4, k1, k2, k3, k4, k5⟩ := H4.out
        have n0 := k4 0 (by omega)
        have n1 := k4 1 (by omega)
        have n2 := k4 2 (by omega)
        have n3 := k4 3 (by omega)
        have n4 := k4 4 (by omega)
        refine ⟨Fst.start HC3.out.1 HC3.out.2.1 HC3.out.2.2.1 k1 k2 k3 k5 ?_ ?_ ?_ n3 n4, H3.out.2.gb k5 (fun e => HQF.out (Option.some.inj e)), gb_new (gb_trans (gb_none HC3.out.2.2.2) k5) HFW.out⟩
        · rw [HZ.out.1, HZ.out.2.2.2.1]; exact n0
        · rw [HZ.out.1, HZ.out.2.2.2.2.1]; exact n1
        · rw [HZ.out.1, HZ.out.2.2.2.2.2.1]; exact n2)
      have q3 : w4.cell? ⟨Q, 3, none⟩ = some (.slice ra m1 rc') := H5.out.2.1.cell 3
      have lQ := H5.out.2.1.lt
      have hnil1 := fun (w : World) => run_neq_slice_nil_any (P := Try.prog) w 61 128 ra m1 rc' 0 0 Try.underlying61
      have hnil2 := fun (w : World) => run_neq_slice_nil_any (P := Try.prog) w 62 126 pa m2 pc 0 0 Try.underlying62
      clear H3 HC3 H4
      go_upto_if 36 with fail
      go_cut [] (fun wc => Hid (∃ ra' rc2, Cf w wc F n i fs Q #[.int .i32 x, .bool se, .bool lv, .slice ra m1 rc', .slice pa m2 pc] (.slice ra' m1 rc2) (.slice pa m2 pc) ∧ NC wc ra' z.rs))
      case first =>
        rcases ra with _ | xr
        · have HZR := Lib.hid HR.out.1.none
          simp only [Option.isSome_none]
          clear hnil1 hnil2
          go_wp2_with fail
          go_meet
          exact Lib.hid ⟨none, rc', H5.out, .inl ⟨rfl, HZR.out⟩⟩
        · simp only [Option.isSome_some]
          clear hnil1 hnil2
          obtain ⟨rb, hrb⟩ : ∃ rb, w4.heap.size = rb := ⟨_, rfl⟩
          go_upto_region 11 with (at_make; refine wpList_make_blk w4 rfl _ _ 61 rfl 128 (.agg z128) 3 8 Try.underlying61 zinfo128 m1 rfl rfl (by omega) (by unfold maxLen; omega) ?_; intro w5 hb5 hg5; have H6 := Lib.hid (And.intro hb5 hg5); clear hb5 hg5)
          try rw [hrb]
          have H7 : Hid (Cpc w4 w5 rb m1 0 z.rs) := Lib.hid (by
            have h := H6.out.1
            rw [hrb] at h
            exact ⟨⟨_, h, by simp [madeCells], fun v hv => by omega⟩, H6.out.2⟩)
          have HRB : Hid (w4.heap.size ≤ rb) := Lib.hid (by omega)
          clear H6 hrb q3 lQ
          go_wp2_with fail
          go_loopg [7] m1 (fun g x wx => ∃ k : Nat, x = .int .i64 (k : Int) ∧ k ≤ m1 ∧ m1 - k ≤ g ∧ Hid (Cpc w4 wx rb m1 k z.rs))
          case atStart => exact ⟨0, rfl, by omega, by omega, H7⟩
          case round =>
            obtain ⟨k, rfl, hk, hgk, HC⟩ := hrel
            obtain ⟨wy, rfl⟩ : ∃ wy : World, wy = wr := ⟨_, rfl⟩
            have H8 := Lib.hid (H5.out.gb HC.out.2)
            have q3 : wy.cell? ⟨Q, 3, none⟩ = some (.slice (some xr) m1 rc') := H8.out.2.1.cell 3
            have lQ := H8.out.2.1.lt
            rcases (show m1 = k ∨ k < m1 by omega) with he | hltk
            · obtain rfl := he
              obtain ⟨lF, ⟨u3, k3⟩, _, fz⟩ := H8.out.1.hf
              have f3 := fz (i * 5 + 3)
              have HS3 := Lib.hid (H8.out.set3 hlt HQF.out HFW.out (.slice (some ⟨rb, 0, none⟩) m1 m1))
              have HNC : Hid (NC (wy.setCell ⟨F, i * 5 + 3, none⟩ (.slice (some ⟨rb, 0, none⟩) m1 m1)) (some ⟨rb, 0, none⟩) z.rs) := Lib.hid (by
                obtain ⟨ds, d1, _⟩ := H8.out.1
                exact (HC.out.nc HZ.out.2.1).kt (kt_past d1 (gb_set (gb_refl _ _) _ _ _) (by decide)))
              clear fz
              go_wp2_with fail
              go_meet
              exact Lib.hid ⟨_, _, HS3.out, HNC.out⟩
            · obtain ⟨b2, off2, h22, lb2, s0, s1, s2⟩ := (HR.out.1.kept kAR (below_of H8.out.2.2)).at (i := k) (by rw [HZ.out.2.1]; exact hltk)
              cases h22
              change wy.cell? ⟨b2, off2 + k * 3, none⟩ = some (.int .i32 (rc z.rs k).tg) at s0
              change wy.cell? ⟨b2, off2 + k * 3 + 1, none⟩ = some (.int .u8 (rc z.rs k).kd) at s1
              change wy.cell? ⟨b2, off2 + k * 3 + 2, none⟩ = some (.bool (rc z.rs k).ex) at s2
              obtain ⟨y0, hy0⟩ : ∃ y, (rc z.rs k).tg = y := ⟨_, rfl⟩
              obtain ⟨y1, hy1⟩ : ∃ y, (rc z.rs k).kd = y := ⟨_, rfl⟩
              obtain ⟨y2, hy2⟩ : ∃ y, (rc z.rs k).ex = y := ⟨_, rfl⟩
              rw [hy0] at s0
              rw [hy1] at s1
              rw [hy2] at s2
              have HY := Lib.hid (And.intro hy0 (And.intro hy1 hy2))
              clear hy0 hy1 hy2
              obtain ⟨⟨ds, d1, d2, d3⟩, d4⟩ := HC.out
              have HDS := Lib.hid (And.intro d1 (And.intro d2 (And.intro d3 d4)))
              clear d1 d2 d3 d4
              obtain ⟨u0, u1, u2, g0, f0, g1, f1, g2, f2⟩ := put3 HDS.out.1 (k * 3) (by rw [HDS.out.2.1]; omega) (.int .i32 y0) (.int .u8 y1)
              have lD := HDS.out.1.lt
              have H9 : Hid (Cpc w4 (wy.setCells rb (k * 3) [.int .i32 y0, .int .u8 y1, .bool y2]) rb m1 (k + 1) z.rs) := Lib.hid (by
                obtain ⟨es, h1, h2, h3, h4⟩ := setCells_mid [.int .i32 y0, .int .u8 y1, .bool y2] (k * 3) wy ds HDS.out.1 (by rw [HDS.out.2.1]; simp; omega)
                have n0 := h4 0 (by simp)
                have n1 := h4 1 (by simp)
                have n2 := h4 2 (by simp)
                refine Cpc.next HDS.out.2.1 HDS.out.2.2.1 HDS.out.2.2.2 HRB.out h1 h2 h3 ⟨?_, ?_, ?_⟩ (setCells_gb _ _ _)
                · rw [HY.out.1]; exact n0
                · rw [HY.out.2.1]; exact n1
                · rw [HY.out.2.2]; exact n2)
              go_wp2_with fail
              go_roundg (gk - 1)
              case measure => omega
              case rel => exact ⟨k + 1, by go_num, by omega, by omega, H9⟩
      case rest =>
        obtain ⟨wa, rfl⟩ : ∃ wa : World, wa = wc := ⟨_, rfl⟩
        have HA := hcut
        clear hcut H5 hnil1 q3 lQ
        obtain ⟨ra1, rc1, hcf, hnc⟩ := HA.out
        have HCF := Lib.hid (And.intro hcf hnc)
        have q4 : wa.cell? ⟨Q, 4, none⟩ = some (.slice pa m2 pc) := hcf.2.1.cell 4
        have lQ := hcf.2.1.lt
        clear HA hcf hnc
        go_upto_if 63 with fail
        rcases pa with _ | xp
        · have HZP := Lib.hid HR.out.2.none
          simp only [Option.isSome_none]
          clear hnil2
          go_wp2_with fail
          go_roundg (gO - 1)
          case measure => omega
          case rel => exact ⟨i + 1, by go_num, by omega, by omega, Lib.hid (Cf.close HZ.out.1 HZ.out.2.1 HZ.out.2.2.1 ⟨ra1, rc1, none, pc, HCF.out.1, HCF.out.2, .inl ⟨rfl, HZP.out⟩⟩)⟩
        · simp only [Option.isSome_some]
          clear hnil2
          obtain ⟨T, hT⟩ : ∃ T, wa.heap.size = T := ⟨_, rfl⟩
          go_upto_region 18 with (at_make; refine wpList_make_blk wa rfl _ _ 62 rfl 126 (.agg z126) 4 56 Try.underlying62 zinfo126 m2 rfl rfl (by omega) (by unfold maxLen; omega) ?_; intro w5 hb5 hg5; have H6 := Lib.hid (And.intro hb5 hg5); clear hb5 hg5)
          try rw [hT]
          have H7 : Hid (Cg wa w5 T m2 0 z.ps) := Lib.hid (by
            have h := H6.out.1
            rw [hT] at h
            exact ⟨⟨_, h, by simp [madeCells], fun v hv => by omega⟩, H6.out.2⟩)
          have HTB : Hid (wa.heap.size ≤ T) := Lib.hid (by omega)
          clear H6 hT q4 lQ
          go_wp2_with fail
          go_loopg [9] m2 (fun g x wx => ∃ j : Nat, x = .int .i64 (j : Int) ∧ j ≤ m2 ∧ m2 - j ≤ g ∧ Hid (Cg wa wx T m2 j z.ps))
          case atStart => exact ⟨0, rfl, by omega, by omega, H7⟩
          case round =>
            obtain ⟨j, rfl, hj, hgj, HP⟩ := hrel
            obtain ⟨wy, rfl⟩ : ∃ wy : World, wy = wr := ⟨_, rfl⟩
            obtain ⟨gP, rfl⟩ : ∃ gP, gP = gk := ⟨_, rfl⟩
            have H8 := Lib.hid (HCF.out.1.gb HP.out.2)
            have q4 : wy.cell? ⟨Q, 4, none⟩ = some (.slice (some xp) m2 pc) := H8.out.2.1.cell 4
            have lQ := H8.out.2.1.lt
            rcases (show m2 = j ∨ j < m2 by omega) with he | hltj
            · obtain rfl := he
              obtain ⟨lF, _, ⟨u3, k3⟩, fz⟩ := H8.out.1.hf
              have f3 := fz (i * 5 + 4)
              have HS4 := Lib.hid (H8.out.set4 hlt HQF.out HFW.out (.slice (some ⟨T, 0, none⟩) m2 m2))
              have HNP : Hid (NC (wy.setCell ⟨F, i * 5 + 4, none⟩ (.slice (some ⟨T, 0, none⟩) m2 m2)) ra1 z.rs ∧ NP (wy.setCell ⟨F, i * 5 + 4, none⟩ (.slice (some ⟨T, 0, none⟩) m2 m2)) (some ⟨T, 0, none⟩) z.ps) := Lib.hid (by
                obtain ⟨ds, d1, _⟩ := H8.out.1
                have hg : wy.grownBy (wy.setCell ⟨F, i * 5 + 4, none⟩ (.slice (some ⟨T, 0, none⟩) m2 m2)) (some F) := gb_set (gb_refl _ _) _ _ _
                obtain ⟨⟨es, e1, e2, e3⟩, e4⟩ := HP.out
                refine ⟨(HCF.out.2.kt (kt_gb e4)).kt (kt_past d1 hg (by decide)), NP.kt (.inr ⟨T, es, rfl, e1, fun j hj => e3 j (by rw [HZ.out.2.2.1] at hj; exact hj)⟩) (kt_past d1 hg (by decide)) (kt_past d1 hg (by decide)) (kt_past d1 hg (by decide))⟩)
              clear fz
              go_wp2_with fail
              go_roundg (gO - 1)
              case measure => omega
              case rel => exact ⟨i + 1, by go_num, by omega, by omega, Lib.hid (Cf.close HZ.out.1 HZ.out.2.1 HZ.out.2.2.1 ⟨_, _, _, _, HS4.out, HNP.out.1, HNP.out.2⟩)⟩
            · obtain ⟨b2, off2, h22, lb0, ia, ic, da, dc, e0, e1, e2, e3, hri, hdi⟩ := HR.out.2.at (i := j) (by rw [HZ.out.2.2.1]; exact hltj)
              cases h22
              have hbl := below_of H8.out.2.2
              have k0 : wy.cell? ⟨b2, off2 + j * 4, none⟩ = some (.slice ia (pt z.ps j).rz.length ic) := cell_k hbl lb0 e0
              have k1 : wy.cell? ⟨b2, off2 + j * 4 + 1, none⟩ = some (.slice da (pt z.ps j).dz.length dc) := cell_k hbl lb0 e1
              have k2 : wy.cell? ⟨b2, off2 + j * 4 + 2, none⟩ = some (.bool (pt z.ps j).cb) := cell_k hbl lb0 e2
              have k3 : wy.cell? ⟨b2, off2 + j * 4 + 3, none⟩ = some (.bool (pt z.ps j).fb) := cell_k hbl lb0 e3
              have lb2 : b2 < wy.heap.size := Nat.lt_of_lt_of_le lb0 H8.out.2.2.size
              change In .u32 w ia (pt z.ps j).rz at hri
              change InS w da (pt z.ps j).dz 2 DAt at hdi
              have hzl := HZ.out.2.2.2.2.2.2.zl j (by rw [HZ.out.2.2.1]; exact hltj)
              obtain ⟨p, hp⟩ : ∃ p, pt z.ps j = p := ⟨_, rfl⟩
              rw [hp] at k0 k1 k2 k3 hri hdi hzl
              obtain ⟨m3, hm3⟩ : ∃ m, p.rz.length = m := ⟨_, rfl⟩
              obtain ⟨m4, hm4⟩ : ∃ m, p.dz.length = m := ⟨_, rfl⟩
              obtain ⟨cb, hcb⟩ : ∃ m, p.cb = m := ⟨_, rfl⟩
              obtain ⟨fb, hfb⟩ : ∃ m, p.fb = m := ⟨_, rfl⟩
              rw [hm3] at k0 hzl
              rw [hm4] at k1 hzl
              rw [hcb] at k2
              rw [hfb] at k3
              obtain ⟨bm3, bm4⟩ := hzl
              have HPZ := Lib.hid (And.intro hp (And.intro hm3 (And.intro hm4 (And.intro hcb hfb))))
              have HRD := Lib.hid (And.intro hri hdi)
              clear hp hm3 hm4 hcb hfb hri hdi e0 e1 e2 e3 lb0 hbl
              obtain ⟨Q2, hQ2⟩ : ∃ Q, wy.heap.size = Q := ⟨_, rfl⟩
              go_upto_region 22 with fail
              clear k0 k1 k2 k3 q4 lQ lb2
              have H9 : Hid (wy.grownBy (wy.alloc (.cells #[.slice ia m3 ic, .slice da m4 dc, .bool cb, .bool fb] 126)) none ∧ Blk (wy.alloc (.cells #[.slice ia m3 ic, .slice da m4 dc, .bool cb, .bool fb] 126)) Q2 126 #[.slice ia m3 ic, .slice da m4 dc, .bool cb, .bool fb]) := Lib.hid (by
                refine ⟨gb_alloc (gb_refl _ _) _, ?_⟩
                have := Blk.new wy 126 #[.slice ia m3 ic, .slice da m4 dc, .bool cb, .bool fb]
                rwa [hQ2] at this)
              have HQ2 := Lib.hid hQ2
              clear hQ2
              generalize wy.alloc (.cells #[.slice ia m3 ic, .slice da m4 dc, .bool cb, .bool fb] 126) = w6 at H9 ⊢
              obtain ⟨⟨ts, hT1, hT2, hT3⟩, hTg⟩ := HP.out
              have HQT : Hid (Q2 ≠ T) := Lib.hid (by have := hT1.lt; have := HQ2.out; omega)
              have HT6 := Lib.hid (And.intro (hT1.gb H9.out.1 (by simp)) (And.intro hT2 (And.intro (fun v hv => (hT3 v hv).kt (kt_gb H9.out.1) (kt_gb H9.out.1)) (gb_trans hTg H9.out.1))))
              have q0 : w6.cell? ⟨Q2, 0, none⟩ = some (.slice ia m3 ic) := H9.out.2.cell 0
              have q1 : w6.cell? ⟨Q2, 1, none⟩ = some (.slice da m4 dc) := H9.out.2.cell 1
              have q2 : w6.cell? ⟨Q2, 2, none⟩ = some (.bool cb) := H9.out.2.cell 2
              have q3 : w6.cell? ⟨Q2, 3, none⟩ = some (.bool fb) := H9.out.2.cell 3
              have lQ2 := H9.out.2.lt
              clear hT1 hT2 hT3 hTg
              obtain ⟨u0, u1, u2, u3, g0, f0, g1, f1, g2, f2, g3, f3⟩ := put4 HT6.out.1 (j * 4) (by rw [HT6.out.2.1]; omega) (.slice ia m3 ic) (.slice da m4 dc) (.bool cb)
              have lT := HT6.out.1.lt
              have H10 : Hid (Ch wa (w6.setCells T (j * 4) [.slice ia m3 ic, .slice da m4 dc, .bool cb, .bool fb]) T m2 j z.ps Q2 #[.slice ia m3 ic, .slice da m4 dc, .bool cb, .bool fb] (.slice ia m3 ic) (.slice da m4 dc)) := Lib.hid (by
                obtain ⟨ds, d1, d2, d3, d4⟩ := setCells_mid [.slice ia m3 ic, .slice da m4 dc, .bool cb, .bool fb] (j * 4) w6 ts HT6.out.1 (by rw [HT6.out.2.1]; simp; omega)
                have hg := setCells_gb (b := T) [.slice ia m3 ic, .slice da m4 dc, .bool cb, .bool fb] (j * 4) w6
                refine ⟨Pst.start HT6.out.1 HT6.out.2.1 HT6.out.2.2.1 d1 d2 d3 hg (d4 0 (by simp)) (d4 1 (by simp)) ?_ ?_, H9.out.2.gb hg (fun e => HQT.out (Option.some.inj e)), gb_new (gb_trans (gb_none HT6.out.2.2.2) hg) HTB.out⟩
                · rw [HPZ.out.1, HPZ.out.2.2.2.1]; exact d4 2 (by simp)
                · rw [HPZ.out.1, HPZ.out.2.2.2.2]; exact d4 3 (by simp))
              go_upto_region 23 with fail
              change Code.wp _ _ _ _ (w6.setCells T (j * 4) [.slice ia m3 ic, .slice da m4 dc, .bool cb, .bool fb])
              clear q0 q1 q2 q3 lQ2 g0 f0 g1 f1 g2 f2 g3 f3 lT u0 u1 u2 u3 H9 HT6
              generalize w6.setCells T (j * 4) [.slice ia m3 ic, .slice da m4 dc, .bool cb, .bool fb] = w7 at H10 ⊢
              have q0 : w7.cell? ⟨Q2, 0, none⟩ = some (.slice ia m3 ic) := H10.out.2.1.cell 0
              have lQ2 := H10.out.2.1.lt
              have hnil1 := fun (w : World) => run_neq_slice_nil_any (P := Try.prog) w 67 23 ia m3 ic 0 0 Try.underlying67
              have hnil2 := fun (w : World) => run_neq_slice_nil_any (P := Try.prog) w 124 130 da m4 dc 0 0 Try.underlying124
              go_upto_if 86 with fail
              go_cut [] (fun wc => Hid (∃ ia' ic2, Ch wa wc T m2 j z.ps Q2 #[.slice ia m3 ic, .slice da m4 dc, .bool cb, .bool fb] (.slice ia' m3 ic2) (.slice da m4 dc) ∧ NR wc ia' p.rz))
              case first =>
                rcases ia with _ | xi
                · have HZI := Lib.hid HRD.out.1.none'
                  simp only [Option.isSome_none]
                  clear hnil1 hnil2
                  go_wp2_with fail
                  go_meet
                  exact Lib.hid ⟨none, ic, H10.out, .inl ⟨rfl, HZI.out⟩⟩
                · simp only [Option.isSome_some]
                  clear hnil1 hnil2
                  obtain ⟨rb, hrb⟩ : ∃ rb, w7.heap.size = rb := ⟨_, rfl⟩
                  go_upto_region 25 with (at_make; refine wpList_make_blk w7 rfl _ _ 67 rfl 23 (.int .u32 0) 1 4 Try.underlying67 zinfo23 m3 rfl rfl (by omega) (by unfold maxLen; omega) ?_; intro w8 hb8 hg8; have H11 := Lib.hid (And.intro hb8 hg8); clear hb8 hg8)
                  try rw [hrb]
                  have H12 : Hid (Cpr w7 w8 rb m3 0 p.rz) := Lib.hid (by
                    have h := H11.out.1
                    rw [hrb] at h
                    exact ⟨⟨_, h, by simp [madeCells], fun v hv => by omega⟩, H11.out.2⟩)
                  have HRB : Hid (w7.heap.size ≤ rb) := Lib.hid (by omega)
                  clear H11 hrb q0 lQ2
                  go_wp2_with fail
                  go_loopg [12] m3 (fun g x wx => ∃ k : Nat, x = .int .i64 (k : Int) ∧ k ≤ m3 ∧ m3 - k ≤ g ∧ Hid (Cpr w7 wx rb m3 k p.rz))
                  case atStart => exact ⟨0, rfl, by omega, by omega, H12⟩
                  case round =>
                    obtain ⟨k, rfl, hk, hgk, HC⟩ := hrel
                    obtain ⟨wx, rfl⟩ : ∃ wx : World, wx = wr := ⟨_, rfl⟩
                    have H13 := Lib.hid (H10.out.gb HC.out.2)
                    have q0 : wx.cell? ⟨Q2, 0, none⟩ = some (.slice (some xi) m3 ic) := H13.out.2.1.cell 0
                    have lQ2 := H13.out.2.1.lt
                    rcases (show m3 = k ∨ k < m3 by omega) with he | hltk
                    · obtain rfl := he
                      obtain ⟨lT, ⟨u3, k3⟩, _, fz⟩ := H13.out.1.hf
                      have f3 := fz (j * 4)
                      have HS0 := Lib.hid (H13.out.set0 hltj HQT.out HTB.out (.slice (some ⟨rb, 0, none⟩) m3 m3))
                      have HNR : Hid (NR (wx.setCell ⟨T, j * 4, none⟩ (.slice (some ⟨rb, 0, none⟩) m3 m3)) (some ⟨rb, 0, none⟩) p.rz) := Lib.hid (by
                        obtain ⟨ds, d1, _⟩ := H13.out.1
                        exact (HC.out.nr HPZ.out.2.1).kt (kt_past d1 (gb_set (gb_refl _ _) _ _ _) (by decide)))
                      clear fz
                      go_wp2_with fail
                      go_meet
                      exact Lib.hid ⟨_, _, HS0.out, HNR.out⟩
                    · obtain ⟨b3, off3, h33, lb0, e0⟩ := HRD.out.1.at (i := k) (by rw [HPZ.out.2.1]; exact hltk)
                      cases h33
                      have s0 : wx.cell? ⟨b3, off3 + k, none⟩ = some (.int .u32 (nth p.rz k)) := cell_k (below_of (gb_trans HCF.out.1.2.2 H13.out.2.2)) lb0 e0
                      have lb3 : b3 < wx.heap.size := Nat.lt_of_lt_of_le lb0 (gb_trans HCF.out.1.2.2 H13.out.2.2).size
                      have H14 := Lib.hid (HC.out.next hltk HRB.out)
                      obtain ⟨⟨ds, d1, d2, d3⟩, d4⟩ := HC.out
                      obtain ⟨u, g0⟩ := d1.has (i := k) (by omega)
                      have f0 := d1.free k
                      have lD := d1.lt
                      obtain ⟨y, hy⟩ : ∃ y, nth p.rz k = y := ⟨_, rfl⟩
                      rw [hy] at s0 H14
                      clear d1 d2 d3 d4 e0 lb0 hy
                      go_wp2_with fail
                      go_roundg (gk - 1)
                      case measure => omega
                      case rel => exact ⟨k + 1, by go_num, by omega, by omega, H14⟩
              case rest =>
                obtain ⟨wb, rfl⟩ : ∃ wb : World, wb = wc := ⟨_, rfl⟩
                have HB3 := hcut
                clear hcut H10 hnil1 q0 lQ2
                obtain ⟨ia1, ic1, hch, hnr⟩ := HB3.out
                have HCH := Lib.hid (And.intro hch hnr)
                have q1 : wb.cell? ⟨Q2, 1, none⟩ = some (.slice da m4 dc) := hch.2.1.cell 1
                have lQ2 := hch.2.1.lt
                clear HB3 hch hnr
                go_upto_if 113 with fail
                rcases da with _ | xd
                · have HZD := Lib.hid HRD.out.2.none
                  simp only [Option.isSome_none]
                  clear hnil2
                  go_wp2_with fail
                  go_roundg (gP - 1)
                  case measure => omega
                  case rel => exact ⟨j + 1, by go_num, by omega, by omega, Lib.hid (Ch.close HPZ.out.1 HPZ.out.2.1 HPZ.out.2.2.1 ⟨ia1, ic1, none, dc, HCH.out.1, HCH.out.2, .inl ⟨rfl, HZD.out⟩⟩)⟩
                · simp only [Option.isSome_some]
                  clear hnil2
                  obtain ⟨db, hdb⟩ : ∃ rb, wb.heap.size = rb := ⟨_, rfl⟩
                  go_upto_region 32 with (at_make; refine wpList_make_blk wb rfl _ _ 124 rfl 130 (.agg z130) 2 8 Try.underlying124 zinfo130 m4 rfl rfl (by omega) (by unfold maxLen; omega) ?_; intro w8 hb8 hg8; have H11 := Lib.hid (And.intro hb8 hg8); clear hb8 hg8)
                  try rw [hdb]
                  have H12 : Hid (Cpd wb w8 db m4 0 p.dz) := Lib.hid (by
                    have h := H11.out.1
                    rw [hdb] at h
                    exact ⟨⟨_, h, by simp [madeCells], fun v hv => by omega⟩, H11.out.2⟩)
                  have HDB : Hid (wb.heap.size ≤ db) := Lib.hid (by omega)
                  clear H11 hdb q1 lQ2
                  go_wp2_with fail
                  go_loopg [14] m4 (fun g x wx => ∃ k : Nat, x = .int .i64 (k : Int) ∧ k ≤ m4 ∧ m4 - k ≤ g ∧ Hid (Cpd wb wx db m4 k p.dz))
                  case atStart => exact ⟨0, rfl, by omega, by omega, H12⟩
                  case round =>
                    obtain ⟨k, rfl, hk, hgk, HC⟩ := hrel
                    obtain ⟨wx, rfl⟩ : ∃ wx : World, wx = wr := ⟨_, rfl⟩
                    have H13 := Lib.hid (HCH.out.1.gb HC.out.2)
                    have q1 : wx.cell? ⟨Q2, 1, none⟩ = some (.slice (some xd) m4 dc) := H13.out.2.1.cell 1
                    have lQ2 := H13.out.2.1.lt
                    rcases (show m4 = k ∨ k < m4 by omega) with he | hltk
                    · obtain rfl := he
                      obtain ⟨lT, _, ⟨u3, k3⟩, fz⟩ := H13.out.1.hf
                      have f3 := fz (j * 4 + 1)
                      have HS1 := Lib.hid (H13.out.set1 hltj HQT.out HTB.out (.slice (some ⟨db, 0, none⟩) m4 m4))
                      have HND : Hid (NR (wx.setCell ⟨T, j * 4 + 1, none⟩ (.slice (some ⟨db, 0, none⟩) m4 m4)) ia1 p.rz ∧ ND (wx.setCell ⟨T, j * 4 + 1, none⟩ (.slice (some ⟨db, 0, none⟩) m4 m4)) (some ⟨db, 0, none⟩) p.dz) := Lib.hid (by
                        obtain ⟨ds, d1, _⟩ := H13.out.1
                        have hg : wx.grownBy (wx.setCell ⟨T, j * 4 + 1, none⟩ (.slice (some ⟨db, 0, none⟩) m4 m4)) (some T) := gb_set (gb_refl _ _) _ _ _
                        exact ⟨(HCH.out.2.kt (kt_gb HC.out.2)).kt (kt_past d1 hg (by decide)), (HC.out.nd HPZ.out.2.2.1).kt (kt_past d1 hg (by decide))⟩)
                      clear fz
                      go_wp2_with fail
                      go_roundg (gP - 1)
                      case measure => omega
                      case rel => exact ⟨j + 1, by go_num, by omega, by omega, Lib.hid (Ch.close HPZ.out.1 HPZ.out.2.1 HPZ.out.2.2.1 ⟨_, _, _, _, HS1.out, HND.out.1, HND.out.2⟩)⟩
                    · obtain ⟨b3, off3, h33, lb0, e0, e1⟩ := HRD.out.2.at (i := k) (by rw [HPZ.out.2.2.1]; exact hltk)
                      cases h33
                      have hgw := gb_trans HCF.out.1.2.2 H13.out.2.2
                      have s0 : wx.cell? ⟨b3, off3 + k * 2, none⟩ = some (.int .u32 (dp p.dz k).1) := cell_k (below_of hgw) lb0 e0
                      have s1 : wx.cell? ⟨b3, off3 + k * 2 + 1, none⟩ = some (.int .u32 (dp p.dz k).2) := cell_k (below_of hgw) lb0 e1
                      have lb3 : b3 < wx.heap.size := Nat.lt_of_lt_of_le lb0 hgw.size
                      obtain ⟨y0, hy0⟩ : ∃ y, (dp p.dz k).1 = y := ⟨_, rfl⟩
                      obtain ⟨y1, hy1⟩ : ∃ y, (dp p.dz k).2 = y := ⟨_, rfl⟩
                      rw [hy0] at s0
                      rw [hy1] at s1
                      have HY := Lib.hid (And.intro hy0 hy1)
                      obtain ⟨⟨ds, d1, d2, d3⟩, d4⟩ := HC.out
                      have HDS := Lib.hid (And.intro d1 (And.intro d2 (And.intro d3 d4)))
                      clear d1 d2 d3 d4 e0 e1 lb0 hgw hy0 hy1
                      obtain ⟨u0, u1, g0, f0, g1, f1⟩ := put2 HDS.out.1 (k * 2) (by rw [HDS.out.2.1]; omega) (.int .u32 y0)
                      have lD := HDS.out.1.lt
                      have H14 : Hid (Cpd wb (wx.setCells db (k * 2) [.int .u32 y0, .int .u32 y1]) db m4 (k + 1) p.dz) := Lib.hid (by
                        obtain ⟨es, h1, h2, h3, h4⟩ := setCells_mid [.int .u32 y0, .int .u32 y1] (k * 2) wx ds HDS.out.1 (by rw [HDS.out.2.1]; simp; omega)
                        have n0 := h4 0 (by simp)
                        have n1 := h4 1 (by simp)
                        refine Cpd.next HDS.out.2.1 HDS.out.2.2.1 HDS.out.2.2.2 HDB.out h1 h2 h3 ⟨?_, ?_⟩ (setCells_gb _ _ _)
                        · rw [HY.out.1]; exact n0
                        · rw [HY.out.2]; exact n1)
                      go_wp2_with fail
                      go_roundg (gk - 1)
                      case measure => omega
                      case rel => exact ⟨k + 1, by go_num, by omega, by omega, H14⟩
end Go.Proofs.Ytebecbidodnneaa
