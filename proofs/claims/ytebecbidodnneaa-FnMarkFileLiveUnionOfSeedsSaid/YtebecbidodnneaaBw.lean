/-
  lkB1Build, walked. No statement of the seat is proved here.
-/
import Derived.Test.YtebecbidodnneaaBd
import Derived.Test.YtebecbidodnneaaWl
import Derived.Deep.CutBlock
namespace Go.Proofs.Ytebecbidodnneaa
open Go.RowKit
set_option linter.unusedVariables false
set_option linter.unusedSimpArgs false

theorem lfSz (r : Value) : (lfA r).size = 24 := by kernel_rfl
theorem lf2 (r : Value) : (lfA r)[2]? = some r := by kernel_rfl
theorem lf7 (r : Value) : (lfA r)[7]? = some (.int .u8 0) := by kernel_rfl
theorem lf23 (r : Value) : (lfA r)[23]? = some (.bool false) := by kernel_rfl
def BuE (fs : List Wf) (n : Nat) (w : World) (e : Ending) (w' : World) : Prop := ∃ F Q P R T, e = .returned (.tuple #[.slice (some ⟨F, 0, none⟩) n n, .slice (some ⟨Q, 0, none⟩) n n]) ∧ Bq w w' Q F n n P R T fs
set_option maxHeartbeats 0 in
set_option maxRecDepth 100000 in
theorem bw_any (ao : Option Addr) (n cap : Nat) (fs : List Wf) (hn : fs.length = n) (hok : OkE fs) (hkz : ∀ i, i < fs.length → OkF (wf fs i)) (w : World) (hin : InS w ao fs 5 FAt) :
    Calls Try.prog 8 #[.slice ao n cap, .bool false] w (BuE fs n w) := by
  have hn4 : n ≤ 4096 := by have := hok.n; omega
  have HN := Lib.hid (And.intro hn (And.intro hin (And.intro hok hkz)))
  clear hn hin hok hkz
  obtain ⟨F, hF⟩ : ∃ F, w.heap.size = F := ⟨_, rfl⟩
  go_enter Try.func8, Try.ntmps8
  go_upto_region 2 with (at_make; refine wpList_make_blk w rfl _ _ 29 rfl 60 (.agg z60) 24 280 Try.underlying29 zinfo60 n rfl rfl (by omega) (by unfold maxLen; omega) ?_; intro w1 hb1 hg1; have H1 := Lib.hid (And.intro hb1 hg1); clear hb1 hg1)
  try rw [hF]
  obtain ⟨Q, hQ⟩ : ∃ Q, w1.heap.size = Q := ⟨_, rfl⟩
  go_upto_region 3 with (at_make; refine wpList_make_blk w1 rfl _ _ 30 rfl 123 (.pointer none) 1 8 Try.underlying30 zinfo123 n rfl rfl (by omega) (by unfold maxLen; omega) ?_; intro w2 hb2 hg2; have H2 := Lib.hid (And.intro hb2 hg2); clear hb2 hg2)
  try rw [hQ]
  have H0 : Hid (Bq w w2 Q F n 0 (fun _ => 0) (fun _ => 0) (fun _ => 0) fs) := Lib.hid (by
    have h1 := H1.out.1
    have h2 := H2.out.1
    rw [hF] at h1
    rw [hQ] at h2
    have hgs := H1.out.2.size
    exact ⟨⟨_, h2, by simp [madeCells], fun v hv => by omega⟩, ⟨_, h1.gb H2.out.2 (by simp), by simp [madeCells], fun v hv => by omega⟩, fun v hv => by omega, fun v hv => by omega, fun u v hu => by omega, gb_trans H1.out.2 H2.out.2, by omega, by omega⟩)
  clear H1 H2 hQ hF
  go_wp2_with fail
  go_loopg [8] n (fun k x wx => ∃ i : Nat, x = .int .i64 (i : Int) ∧ i ≤ n ∧ n - i ≤ k ∧ Hid (∃ P R T, Bq w wx Q F n i P R T fs))
  case atStart => exact ⟨0, rfl, by omega, by omega, Lib.hid ⟨_, _, _, H0.out⟩⟩
  case round =>
    obtain ⟨i, rfl, hi, hk, HB⟩ := hrel
    obtain ⟨wz, rfl⟩ : ∃ wz : World, wz = wr := ⟨_, rfl⟩
    obtain ⟨gO, rfl⟩ : ∃ gO, gO = gk := ⟨_, rfl⟩
    rcases (show n = i ∨ i < n by omega) with he | hlt
    · obtain rfl := he
      go_wp2_with fail
      obtain ⟨P, R, T, hb⟩ := HB.out
      exact bodyPost_ret (results_tmp2 rfl _ _ _) rfl ⟨F, Q, P, R, T, rfl, hb⟩
    · obtain ⟨P, R, T, hbq⟩ := HB.out
      have HQ := Lib.hid hbq
      clear hbq HB
      obtain ⟨b', off, rfl, lb0, ra, rc', pa, pc, e0, e1, e2, e3, e4, hrs, hps⟩ := HN.out.2.1.at (i := i) (by rw [HN.out.1]; exact hlt)
      have hbl := below_of HQ.out.g
      have c0 : wz.cell? ⟨b', off + i * 5, none⟩ = some (.int .i32 (wf fs i).css) := cell_k hbl lb0 e0
      have c1 : wz.cell? ⟨b', off + i * 5 + 1, none⟩ = some (.bool (wf fs i).se) := cell_k hbl lb0 e1
      have c2 : wz.cell? ⟨b', off + i * 5 + 2, none⟩ = some (.bool (wf fs i).lv) := cell_k hbl lb0 e2
      have c3 : wz.cell? ⟨b', off + i * 5 + 3, none⟩ = some (.slice ra (wf fs i).rs.length rc') := cell_k hbl lb0 e3
      have c4 : wz.cell? ⟨b', off + i * 5 + 4, none⟩ = some (.slice pa (wf fs i).ps.length pc) := cell_k hbl lb0 e4
      have lb : b' < wz.heap.size := Nat.lt_of_lt_of_le lb0 HQ.out.g.size
      change InS w ra (wf fs i).rs 3 RAt at hrs
      change InS w pa (wf fs i).ps 4 PAt at hps
      have hi' : i < fs.length := by rw [HN.out.1]; exact hlt
      have bm1 := HN.out.2.2.1.rl i hi'
      have bm2 := HN.out.2.2.1.pl i hi'
      have HZL := Lib.hid (And.intro (HN.out.2.2.1.zl i hi') (And.intro (HN.out.2.2.2 i hi') (HN.out.2.2.1.tg i hi')))
      have hcs := HN.out.2.2.1.css i hi'
      rw [HN.out.1] at hcs
      obtain ⟨z, hz⟩ : ∃ z, wf fs i = z := ⟨_, rfl⟩
      rw [hz] at c0 c1 c2 c3 c4 hrs hps bm1 bm2 HZL hcs
      obtain ⟨m1, hm1⟩ : ∃ m, z.rs.length = m := ⟨_, rfl⟩
      obtain ⟨m2, hm2⟩ : ∃ m, z.ps.length = m := ⟨_, rfl⟩
      obtain ⟨x, hx⟩ : ∃ m, z.css = m := ⟨_, rfl⟩
      obtain ⟨se, hse⟩ : ∃ m, z.se = m := ⟨_, rfl⟩
      obtain ⟨lv, hlv⟩ : ∃ m, z.lv = m := ⟨_, rfl⟩
      rw [hm1] at c3 bm1
      rw [hm2] at c4 bm2
      rw [hx] at c0 hcs
      rw [hse] at c1
      rw [hlv] at c2
      have HZ := Lib.hid (And.intro hz (And.intro hm1 (And.intro hm2 (And.intro hx hse))))
      have HR := Lib.hid (And.intro hrs hps)
      clear hz hm1 hm2 hx hse hlv hrs hps e0 e1 e2 e3 e4 lb0 hbl hi'
      obtain ⟨L, hL⟩ : ∃ L, wz.heap.size = L := ⟨_, rfl⟩
      go_upto_region 7 with fail
      clear c0 c1 c2 c3 c4 lb
      have H3 : Hid (wz.grownBy (wz.alloc (.cells #[.int .i32 x, .bool se, .bool lv, .slice ra m1 rc', .slice pa m2 pc] 64)) none ∧ Blk (wz.alloc (.cells #[.int .i32 x, .bool se, .bool lv, .slice ra m1 rc', .slice pa m2 pc] 64)) L 64 #[.int .i32 x, .bool se, .bool lv, .slice ra m1 rc', .slice pa m2 pc]) := Lib.hid (by
        refine ⟨gb_alloc (gb_refl _ _) _, ?_⟩
        have := Blk.new wz 64 #[.int .i32 x, .bool se, .bool lv, .slice ra m1 rc', .slice pa m2 pc]
        rwa [hL] at this)
      clear hL
      generalize wz.alloc (.cells #[.int .i32 x, .bool se, .bool lv, .slice ra m1 rc', .slice pa m2 pc] 64) = w3 at H3 ⊢
      have HQ3 := Lib.hid (And.intro (HQ.out.gb H3.out.1) H3.out.2)
      have q3 : w3.cell? ⟨L, 3, none⟩ = some (.slice ra m1 rc') := H3.out.2.cell 3
      have lL := H3.out.2.lt
      clear H3 HQ
      obtain ⟨rb, hrb⟩ : ∃ rb, w3.heap.size = rb := ⟨_, rfl⟩
      go_upto_region 8 with (at_make; refine wpList_make_blk w3 rfl _ _ 98 rfl 138 (.agg z138) 15 112 Try.underlying98 zinfo138 m1 rfl rfl (by omega) (by unfold maxLen; omega) ?_; intro w4 hb4 hg4; have H4 := Lib.hid (And.intro hb4 hg4); clear hb4 hg4)
      try rw [hrb]
      have H5 : Hid (Rs w3 w4 rb m1 0 z.rs) := Lib.hid (by
        have h := H4.out.1
        rw [hrb] at h
        exact ⟨⟨_, h, by simp [madeCells], fun v hv => by omega, fun v _ hv => ⟨(made_at (.agg z138) 15 m1 v 10 z138_size hv (by omega)).trans z138_10, (made_at (.agg z138) 15 m1 v 12 z138_size hv (by omega)).trans z138_12⟩⟩, H4.out.2⟩)
      have HRB : Hid (w3.heap.size ≤ rb) := Lib.hid (by omega)
      clear H4 hrb q3 lL
      go_wp2_with fail
      go_loopg [11] m1 (fun g y wx => ∃ k : Nat, y = .int .i64 (k : Int) ∧ k ≤ m1 ∧ m1 - k ≤ g ∧ Hid (Rs w3 wx rb m1 k z.rs))
      case atStart => exact ⟨0, rfl, by omega, by omega, H5⟩
      case round =>
        obtain ⟨k, rfl, hk, hgk, HC⟩ := hrel
        obtain ⟨wy, rfl⟩ : ∃ wy : World, wy = wr := ⟨_, rfl⟩
        have HLY := Lib.hid (HQ3.out.2.gb HC.out.2 (by simp))
        have q3 : wy.cell? ⟨L, 3, none⟩ = some (.slice ra m1 rc') := HLY.out.cell 3
        have lL := HLY.out.lt
        rcases (show m1 = k ∨ k < m1 by omega) with he | hltk
        · obtain rfl := he
          have HRS := HC
          clear HC
          have q4 : wy.cell? ⟨L, 4, none⟩ = some (.slice pa m2 pc) := HLY.out.cell 4
          obtain ⟨tb, htb⟩ : ∃ tb, wy.heap.size = tb := ⟨_, rfl⟩
          go_upto_region 18 with (at_make; refine wpList_make_blk wy rfl _ _ 83 rfl 74 (.agg z74) 11 152 Try.underlying83 zinfo74 m2 rfl rfl (by omega) (by unfold maxLen; omega) ?_; intro w5 hb5 hg5; have H6 := Lib.hid (And.intro hb5 hg5); clear hb5 hg5)
          try rw [htb]
          have H7 : Hid (Ts wy w5 tb m2 0 z.ps) := Lib.hid (by
            have h := H6.out.1
            rw [htb] at h
            exact ⟨⟨_, h, by simp [madeCells, z74, zrP], fun v hv => by omega, fun v _ hv i hi => (made_at (.agg z74) 11 m2 v i rfl hv hi).trans (by show z74[i]? = _; unfold z74; simp)⟩, H6.out.2⟩)
          have HTB : Hid (wy.heap.size ≤ tb ∧ wy.heap.size = tb) := Lib.hid ⟨by omega, htb⟩
          clear H6 htb q4 lL q3
          go_wp2_with fail
          go_loopg [14] m2 (fun g y wx => ∃ j : Nat, y = .int .i64 (j : Int) ∧ j ≤ m2 ∧ m2 - j ≤ g ∧ Hid (Ts wy wx tb m2 j z.ps))
          case atStart => exact ⟨0, rfl, by omega, by omega, H7⟩
          case round =>
            obtain ⟨j, rfl, hj, hgj, HT⟩ := hrel
            obtain ⟨wv, rfl⟩ : ∃ wv : World, wv = wr := ⟨_, rfl⟩
            obtain ⟨gP, rfl⟩ : ∃ gP, gP = gk := ⟨_, rfl⟩
            have HLV := Lib.hid (HLY.out.gb HT.out.2 (by simp))
            have HGV := Lib.hid (gb_trans (gb_trans HQ3.out.1.g HRS.out.2) HT.out.2)
            have q4 : wv.cell? ⟨L, 4, none⟩ = some (.slice pa m2 pc) := HLV.out.cell 4
            have lL := HLV.out.lt
            rcases (show m2 = j ∨ j < m2 by omega) with he | hltj
            · obtain rfl := he
              obtain ⟨pb, hpb⟩ : ∃ pb, wv.heap.size = pb := ⟨_, rfl⟩
              go_upto_region 38 with (refine wpList_build rfl 122 _ rfl [] rfl zjs build122 ?_)
              clear q4 lL
              have hb0 := Blk.new wv 122 zjs
              rw [hpb] at hb0
              have H8 : Hid (wv.grownBy (wv.alloc (.cells zjs 122)) none ∧ wv.heap.size ≤ pb) := Lib.hid ⟨gb_alloc (gb_refl _ _) _, by omega⟩
              try rw [hpb]
              clear hpb
              generalize wv.alloc (.cells zjs 122) = w6 at hb0 H8 ⊢
              have lp := hb0.lt
              have f20 := hb0.free 20
              obtain ⟨v20, k20⟩ := hb0.has (i := 20) (by simp [zjs_size])
              have h1 := hb0.set 20 (.slice (some ⟨tb, 0, none⟩) m2 m2)
              have f35 := h1.free 35
              obtain ⟨v35, k35⟩ := h1.has (i := 35) (by simp [zjs_size])
              have H9 : Hid (Pz ((w6.setCell ⟨pb, 20, none⟩ (.slice (some ⟨tb, 0, none⟩) m2 m2)).setCell ⟨pb, 35, none⟩ (.slice (some ⟨rb, 0, none⟩) m1 m1)) pb rb tb m1 m2 0 ∧ wv.grownBy ((w6.setCell ⟨pb, 20, none⟩ (.slice (some ⟨tb, 0, none⟩) m2 m2)).setCell ⟨pb, 35, none⟩ (.slice (some ⟨rb, 0, none⟩) m1 m1)) none) := Lib.hid (by
                refine ⟨⟨_, h1.set 35 _, by simp [zjs_size], ?_, ?_, ?_⟩, gb_new (gb_trans (gb_none H8.out.1) (gb_set (gb_set (gb_refl w6 (some pb)) _ _ _) _ _ _)) H8.out.2⟩
                · rw [Array.getElem?_setIfInBounds_ne (by omega)]
                  exact Array.getElem?_setIfInBounds_self_of_lt (by rw [zjs_size]; omega)
                · exact Array.getElem?_setIfInBounds_self_of_lt (by simp [zjs_size])
                · rw [Array.getElem?_setIfInBounds_ne (by omega), Array.getElem?_setIfInBounds_ne (by omega)]; exact zjs63)
              clear hb0 h1
              go_upto_region 40 with fail
              clear lp f20 k20 f35 k35 v20 v35
              generalize (w6.setCell ⟨pb, 20, none⟩ (.slice (some ⟨tb, 0, none⟩) m2 m2)).setCell ⟨pb, 35, none⟩ (.slice (some ⟨rb, 0, none⟩) m1 m1) = w7 at H9 ⊢
              have hL7 := HLV.out.gb H9.out.2 (by simp)
              have q0 : w7.cell? ⟨L, 0, none⟩ = some (.int .i32 x) := hL7.cell 0
              have lL := hL7.lt
              clear hL7
              go_upto_if 178 with fail
              go_cut [] (fun wc => Hid (Pz wc pb rb tb m1 m2 (fl x) ∧ wv.grownBy wc none))
              case first =>
                by_cases hx0 : 0 ≤ x
                · obtain ⟨c, rfl⟩ : ∃ c : Nat, x = (c : Int) := ⟨x.toNat, by omega⟩
                  have wr1 : IntKind.u32.wrap (c : Int) = (c : Int) := by rw [IntKind.wrap_u32]; omega
                  have HMK := Lib.hid (fun w => mk_any (c : Int) (by omega) (by omega) w)
                  have HFL : Hid (fl (c : Int) = 4294967295 - (c : Int)) := Lib.hid (by unfold fl; rw [if_pos (by omega)])
                  have d0 : decide ((0 : Int) ≤ (c : Int)) = true := by simp
                  clear hcs hx0
                  go_wp2_with (go_at_call 10; refine (HMK.out _).mono ?_; rintro e w8 ⟨rfl, hg8⟩; obtain ⟨cs8, a1, a2, a3, a4, a5⟩ := H9.out.1; have HA8 := Lib.hid (And.intro (a1.gb hg8 (by simp)) (And.intro a2 (And.intro a3 (And.intro a4 (gb_trans H9.out.2 hg8))))); have l8 := HA8.out.1.lt; have f63 := HA8.out.1.free 63; have k63 : w8.cell? ⟨pb, 63, none⟩ = some (.int .u32 0) := (HA8.out.1.cell 63).trans a5; clear hg8 a1 a2 a3 a4 a5)
                  go_meet
                  obtain ⟨a1, a2, a3, a4, a5⟩ := HA8.out
                  refine Lib.hid ⟨⟨_, a1.set 63 _, by simp [a2], ?_, ?_, ?_⟩, gb_new (gb_trans (gb_none a5) (gb_set (gb_refl w8 (some pb)) _ _ _)) H8.out.2⟩
                  · rw [Array.getElem?_setIfInBounds_ne (by omega)]; exact a3
                  · rw [Array.getElem?_setIfInBounds_ne (by omega)]; exact a4
                  · rw [HFL.out]; exact Array.getElem?_setIfInBounds_self_of_lt (by omega)
                · have d0 : decide ((0 : Int) ≤ x) = false := by simp; omega
                  have HFL : Hid (fl x = 0) := Lib.hid (by unfold fl; rw [if_neg hx0])
                  rw [d0]
                  clear hx0 hcs
                  go_wp2_with fail
                  go_meet
                  exact Lib.hid (by rw [HFL.out]; exact H9.out)
              case rest =>
                obtain ⟨wa, rfl⟩ : ∃ wa : World, wa = wc := ⟨_, rfl⟩
                have HA := hcut
                clear hcut q0 lL H9 hcs
                have HBA : Hid (Bq w wa Q F n i P R T fs ∧ One wa pb rb tb (wf fs i) ∧ Blk wa L 64 #[.int .i32 x, .bool se, .bool lv, .slice ra m1 rc', .slice pa m2 pc] ∧ (∀ v, v < i → T v ≠ tb)) := Lib.hid (by
                  have hg := gb_trans HT.out.2 HA.out.2
                  have hga := gb_trans HRS.out.2 hg
                  obtain ⟨c1, a1, a2, a3, a4, a5⟩ := HA.out.1
                  obtain ⟨⟨c2, b1, b2, b3, _⟩, _⟩ := HRS.out
                  obtain ⟨⟨c3, t1, t2, t3, _⟩, _⟩ := HT.out
                  refine ⟨HQ3.out.1.gb hga, ⟨⟨c1, a1, ?_, ?_, ?_⟩, ⟨c2, b1.gb hg (by simp), fun j hj => ?_⟩, ⟨c3, t1.gb HA.out.2 (by simp), ?_, fun j hj => ?_⟩⟩, HLV.out.gb HA.out.2 (by simp), fun v hv e => ?_⟩
                  · rw [HZ.out.1, HZ.out.2.2.1]; exact a3
                  · rw [HZ.out.1, HZ.out.2.1]; exact a4
                  · rw [HZ.out.1, HZ.out.2.2.2.1]; exact a5
                  · rw [HZ.out.1] at hj ⊢
                    rw [HZ.out.2.1] at hj
                    exact b3 j hj
                  · rw [HZ.out.1, HZ.out.2.2.1]; exact t2
                  · rw [HZ.out.1] at hj ⊢
                    rw [HZ.out.2.2.1] at hj
                    exact (t3 j hj).gb HA.out.2
                  · obtain ⟨c4, d1, _⟩ := (HQ3.out.1.o v hv).tt
                    have := d1.lt
                    have := HRS.out.2.size
                    have := HTB.out.2
                    omega)
                have HS := Lib.hid (HBA.out.1.setq (p := pb) hlt)
                obtain ⟨qs, hq1, hq2, _⟩ := HBA.out.1.q
                have fq := hq1.free i
                obtain ⟨vq, kq⟩ := hq1.has (i := i) (by omega)
                have lq := hq1.lt
                have HLB : Hid (Blk (wa.setCell ⟨Q, i, none⟩ (.pointer (some ⟨pb, 0, none⟩))) L 64 #[.int .i32 x, .bool se, .bool lv, .slice ra m1 rc', .slice pa m2 pc]) := Lib.hid (kt_past hq1 (gb_set (gb_refl wa (some Q)) _ _ _) (by decide) _ _ HBA.out.2.2.1)
                clear hq1 hq2
                go_upto_region 43 with fail
                clear fq vq kq lq
                have HO : Hid (Bo w (wa.setCell ⟨Q, i, none⟩ (.pointer (some ⟨pb, 0, none⟩))) Q n i P R T fs pb rb tb) := Lib.hid (by
                  obtain ⟨s1, ⟨qs', s2, s3⟩, s4⟩ := HS.out
                  obtain ⟨qs, t1, t2, t3⟩ := s1.q
                  refine ⟨⟨qs, t1, t2, t3, ?_⟩, s1.o, HBA.out.2.1.kt s4, s1.lo, s1.inj, ⟨?_, HBA.out.2.2.2⟩, s1.g, s1.b.1⟩
                  · have h3 := Option.some.inj (t1.symm.trans s2)
                    rw [Obj.cells.injEq] at h3
                    rw [h3.1]; exact s3
                  · exact Nat.le_trans (gb_trans HQ3.out.1.g HRS.out.2).size HTB.out.1)
                have HFB := Lib.hid (And.intro HS.out.1.f HS.out.1.b.2)
                generalize wa.setCell ⟨Q, i, none⟩ (.pointer (some ⟨pb, 0, none⟩)) = w8 at HO HLB HFB HS ⊢
                have HJF := Lib.hid (fun w => jf_any pb w)
                obtain ⟨cs, hc1, hc2, hc3⟩ := HFB.out.1
                have HC9 := Lib.hid (And.intro hc1 (And.intro hc2 hc3))
                clear hc1 hc2 hc3
                go_upto_region 44 with (first
                  | (go_at_call 11; refine (HJF.out _).mono ?_; rintro e w9 ⟨rfl, hg9⟩; have HG9 := Lib.hid hg9; have HB9 := Lib.hid (HC9.out.1.gb hg9 (by simp)); have lF9 := HB9.out.lt; clear hg9)
                  | (refine wpList_store_mid rfl 60 _ _ rfl F (i * 24) cs (lfA (.iface 123 (.pointer (some ⟨pb, 0, none⟩)))) HB9.out rfl rfl (by rw [lfSz, HC9.out.2.1]; omega) (info60 _) (lf_one _) ?_; intro w10 cs10 hb10 hs10 ho10 hn10 hg10; have H10 := Lib.hid (And.intro hb10 (And.intro hs10 (And.intro ho10 (And.intro hn10 hg10)))); clear hb10 hs10 ho10 hn10 hg10))
                have H11 : Hid (Fr w10 F n i P fs (.iface 123 (.pointer (some ⟨pb, 0, none⟩))) (.int .u8 0) (.bool false) ∧ Bo w w10 Q n i P R T fs pb rb tb ∧ Blk w10 L 64 #[.int .i32 x, .bool se, .bool lv, .slice ra m1 rc', .slice pa m2 pc]) := Lib.hid (by
                  obtain ⟨h1, h2, h3, h4, h5⟩ := H10.out
                  have e2 := h4 2 (by rw [lfSz]; omega)
                  have e7 := h4 7 (by rw [lfSz]; omega)
                  have e23 := h4 23 (by rw [lfSz]; omega)
                  rw [lf2] at e2
                  rw [lf7] at e7
                  rw [lf23] at e23
                  refine ⟨⟨cs10, h1, by rw [h2]; exact HC9.out.2.1, fun v hv => (HC9.out.2.2 v hv).cs (fun k hk => h3 _ (.inl (by omega))), e2, e7, e23⟩, (HO.out.gb HG9.out).past HB9.out HFB.out.2 h5, kt_past HB9.out h5 (by decide) _ _ (HLB.out.gb HG9.out (by simp))⟩)
                have HFW : Hid (w.heap.size ≤ F) := Lib.hid HFB.out.2
                clear HG9 HB9 lF9 H10 HC9 HO HLB HFB HS HJF
                have q1 : w10.cell? ⟨L, 1, none⟩ = some (.bool se) := H11.out.2.2.cell 1
                have lL := H11.out.2.2.lt
                go_upto_if 197 with fail
                go_cut [] (fun wc => Hid (Fr wc F n i P fs (.iface 123 (.pointer (some ⟨pb, 0, none⟩))) (.int .u8 (sek se)) (.bool false) ∧ Bo w wc Q n i P R T fs pb rb tb))
                case first =>
                  cases se with
                  | true =>
                    go_wp2_with fail
                    go_meet
                    exact Lib.hid ⟨H11.out.1, H11.out.2.1⟩
                  | false =>
                    obtain ⟨lF, hh, fz⟩ := H11.out.1.hf hlt
                    obtain ⟨u7, k7⟩ := hh 7 (by omega)
                    have f7 := fz (i * 24 + 7)
                    have H12 : Hid (Fr (w10.setCell ⟨F, i * 24 + 7, none⟩ (.int .u8 1)) F n i P fs (.iface 123 (.pointer (some ⟨pb, 0, none⟩))) (.int .u8 1) (.bool false) ∧ Bo w (w10.setCell ⟨F, i * 24 + 7, none⟩ (.int .u8 1)) Q n i P R T fs pb rb tb) := Lib.hid (by
                      obtain ⟨ds, d1, _⟩ := id H11.out.1
                      exact ⟨H11.out.1.set7 hlt _, H11.out.2.1.past d1 HFW.out (gb_set (gb_refl _ _) _ _ _)⟩)
                    clear hh fz
                    go_wp2_with fail
                    go_meet
                    exact H12
                case rest =>
                  obtain ⟨wb, rfl⟩ : ∃ wb : World, wb = wc := ⟨_, rfl⟩
                  have HE := hcut
                  clear hcut q1 lL H11
                  have HBS := Lib.hid (fun w => bs_any w)
                  go_upto_region 47 with (go_at_call 12; refine (HBS.out _).mono ?_; rintro e w11 ⟨⟨bb, rfl⟩, hg11⟩; have H12 := Lib.hid (And.intro (HE.out.1.gb hg11) (HE.out.2.gb hg11)); obtain ⟨lF, hh, fz⟩ := H12.out.1.hf hlt; obtain ⟨u0, k0⟩ := hh 0 (by omega); have k0 : w11.cell? ⟨F, i * 24, none⟩ = some u0 := k0; have f0 := fz (i * 24); clear hg11 hh fz)
                  have H13 : Hid (Fr (w11.setCell ⟨F, i * 24, none⟩ (.slice (some ⟨bb, 0, none⟩) 32 32)) F n i P fs (.iface 123 (.pointer (some ⟨pb, 0, none⟩))) (.int .u8 (sek se)) (.bool false) ∧ Bo w (w11.setCell ⟨F, i * 24, none⟩ (.slice (some ⟨bb, 0, none⟩) 32 32)) Q n i P R T fs pb rb tb) := Lib.hid (by
                    obtain ⟨ds, d1, _⟩ := id H12.out.1
                    exact ⟨H12.out.1.seto (k := 0) (.inl rfl) _, H12.out.2.past d1 HFW.out (gb_set (gb_refl _ _) _ _ _)⟩)
                  clear lF k0 f0
                  generalize w11.setCell ⟨F, i * 24, none⟩ (.slice (some ⟨bb, 0, none⟩) 32 32) = w12 at H13 ⊢
                  obtain ⟨lF, hh, fz⟩ := H13.out.1.hf hlt
                  obtain ⟨u20, k20⟩ := hh 20 (by omega)
                  have f20 := fz (i * 24 + 20)
                  have H14 : Hid (Fr (w12.setCell ⟨F, i * 24 + 20, none⟩ (.int .u32 4294967295)) F n i P fs (.iface 123 (.pointer (some ⟨pb, 0, none⟩))) (.int .u8 (sek se)) (.bool false) ∧ Bo w (w12.setCell ⟨F, i * 24 + 20, none⟩ (.int .u32 4294967295)) Q n i P R T fs pb rb tb) := Lib.hid (by
                    obtain ⟨ds, d1, _⟩ := id H13.out.1
                    exact ⟨H13.out.1.seto (k := 20) (.inr rfl) _, H13.out.2.past d1 HFW.out (gb_set (gb_refl _ _) _ _ _)⟩)
                  clear hh fz
                  go_upto_region 48 with fail
                  clear lF k20 f20
                  generalize w12.setCell ⟨F, i * 24 + 20, none⟩ (.int .u32 4294967295) = w13 at H14 ⊢
                  obtain ⟨lF, hh, fz⟩ := H14.out.1.hf hlt
                  obtain ⟨u23, k23⟩ := hh 23 (by omega)
                  have f23 := fz (i * 24 + 23)
                  have H15 : Hid (Fr (w13.setCell ⟨F, i * 24 + 23, none⟩ (.bool false)) F n i P fs (.iface 123 (.pointer (some ⟨pb, 0, none⟩))) (.int .u8 (sek se)) (.bool false) ∧ Bo w (w13.setCell ⟨F, i * 24 + 23, none⟩ (.bool false)) Q n i P R T fs pb rb tb) := Lib.hid (by
                    obtain ⟨ds, d1, _⟩ := id H14.out.1
                    exact ⟨H14.out.1.set23 hlt _, H14.out.2.past d1 HFW.out (gb_set (gb_refl _ _) _ _ _)⟩)
                  clear hh fz
                  go_wp2_with fail
                  go_roundg (gO - 1)
                  case measure => omega
                  case rel => exact ⟨i + 1, by go_num, by omega, by omega, Lib.hid (H15.out.2.done HFW.out (by rw [HZ.out.1, HZ.out.2.2.2.2]; exact H15.out.1))⟩
            · obtain ⟨b2, off2, hpa, lb0, ia, ic, da, dc, e0, e1, e2, e3, hri, hdi⟩ := HR.out.2.at (i := j) (by rw [HZ.out.2.2.1]; exact hltj)
              have hbl := below_of HGV.out
              have k0 : wv.cell? ⟨b2, off2 + j * 4, none⟩ = some (.slice ia (pt z.ps j).rz.length ic) := cell_k hbl lb0 e0
              have k1 : wv.cell? ⟨b2, off2 + j * 4 + 1, none⟩ = some (.slice da (pt z.ps j).dz.length dc) := cell_k hbl lb0 e1
              have k2 : wv.cell? ⟨b2, off2 + j * 4 + 2, none⟩ = some (.bool (pt z.ps j).cb) := cell_k hbl lb0 e2
              have k3 : wv.cell? ⟨b2, off2 + j * 4 + 3, none⟩ = some (.bool (pt z.ps j).fb) := cell_k hbl lb0 e3
              have lb2 : b2 < wv.heap.size := Nat.lt_of_lt_of_le lb0 HGV.out.size
              change In .u32 w ia (pt z.ps j).rz at hri
              change InS w da (pt z.ps j).dz 2 DAt at hdi
              rw [hpa] at q4
              have hzl := HZL.out.1 j (by rw [HZ.out.2.2.1]; exact hltj)
              obtain ⟨p, hp⟩ : ∃ p, pt z.ps j = p := ⟨_, rfl⟩
              rw [hp] at k0 k1 k2 k3 hri hdi hzl
              obtain ⟨m3, hm3⟩ : ∃ m, p.rz.length = m := ⟨_, rfl⟩
              obtain ⟨m4, hm4⟩ : ∃ m, p.dz.length = m := ⟨_, rfl⟩
              obtain ⟨cb, hcb⟩ : ∃ m, p.cb = m := ⟨_, rfl⟩
              obtain ⟨fb, hfb⟩ : ∃ m, p.fb = m := ⟨_, rfl⟩
              rw [hm3] at k0 hzl
              rw [hm4] at k1 hzl
              rw [hcb] at k2
              rw [hfb] at k3
              obtain ⟨bm3, bm4⟩ := hzl
              have HPZ := Lib.hid (And.intro hp (And.intro hm3 (And.intro hm4 (And.intro hcb hfb))))
              have HRD := Lib.hid (And.intro hri hdi)
              clear hp hm3 hm4 hcb hfb hri hdi e0 e1 e2 e3 lb0 hbl hpa
              obtain ⟨L2, hL2⟩ : ∃ L, wv.heap.size = L := ⟨_, rfl⟩
              go_upto_region 22 with fail
              clear k0 k1 k2 k3 q4 lL lb2
              have H9 : Hid (wv.grownBy (wv.alloc (.cells #[.slice ia m3 ic, .slice da m4 dc, .bool cb, .bool fb] 126)) none ∧ Blk (wv.alloc (.cells #[.slice ia m3 ic, .slice da m4 dc, .bool cb, .bool fb] 126)) L2 126 #[.slice ia m3 ic, .slice da m4 dc, .bool cb, .bool fb]) := Lib.hid (by
                refine ⟨gb_alloc (gb_refl _ _) _, ?_⟩
                have := Blk.new wv 126 #[.slice ia m3 ic, .slice da m4 dc, .bool cb, .bool fb]
                rwa [hL2] at this)
              clear hL2
              generalize wv.alloc (.cells #[.slice ia m3 ic, .slice da m4 dc, .bool cb, .bool fb] 126) = w6 at H9 ⊢
              have HT6 := Lib.hid (HT.out.gb H9.out.1)
              have q0 : w6.cell? ⟨L2, 0, none⟩ = some (.slice ia m3 ic) := H9.out.2.cell 0
              have lL2 := H9.out.2.lt
              obtain ⟨ib, hib⟩ : ∃ ib, w6.heap.size = ib := ⟨_, rfl⟩
              go_upto_region 23 with (at_make; refine wpList_make_blk w6 rfl _ _ 67 rfl 23 (.int .u32 0) 1 4 Try.underlying67 zinfo23 m3 rfl rfl (by omega) (by unfold maxLen; omega) ?_; intro w8 hb8 hg8; have H11 := Lib.hid (And.intro hb8 hg8); clear hb8 hg8)
              try rw [hib]
              have H12 : Hid (Cpr w6 w8 ib m3 0 p.rz) := Lib.hid (by
                have h := H11.out.1
                rw [hib] at h
                exact ⟨⟨_, h, by simp [madeCells], fun v hv => by omega⟩, H11.out.2⟩)
              have HIB : Hid (w6.heap.size ≤ ib) := Lib.hid (by omega)
              clear H11 hib q0 lL2
              go_wp2_with fail
              go_loopg [17] m3 (fun g y wx => ∃ k : Nat, y = .int .i64 (k : Int) ∧ k ≤ m3 ∧ m3 - k ≤ g ∧ Hid (Cpr w6 wx ib m3 k p.rz))
              case atStart => exact ⟨0, rfl, by omega, by omega, H12⟩
              case round =>
                obtain ⟨k, rfl, hk, hgk, HC⟩ := hrel
                obtain ⟨wx, rfl⟩ : ∃ wx : World, wx = wr := ⟨_, rfl⟩
                have HLX := Lib.hid (H9.out.2.gb HC.out.2 (by simp))
                have q0 : wx.cell? ⟨L2, 0, none⟩ = some (.slice ia m3 ic) := HLX.out.cell 0
                have lL2 := HLX.out.lt
                rcases (show m3 = k ∨ k < m3 by omega) with he | hltk
                · obtain rfl := he
                  have q1 : wx.cell? ⟨L2, 1, none⟩ = some (.slice da m4 dc) := HLX.out.cell 1
                  obtain ⟨db, hdb⟩ : ∃ db, wx.heap.size = db := ⟨_, rfl⟩
                  go_upto_region 28 with (at_make; refine wpList_make_blk wx rfl _ _ 72 rfl 141 (.agg z141) 2 8 Try.underlying72 zinfo141 m4 rfl rfl (by omega) (by unfold maxLen; omega) ?_; intro w9 hb9 hg9; have H13 := Lib.hid (And.intro hb9 hg9); clear hb9 hg9)
                  try rw [hdb]
                  have H14 : Hid (Dd wx w9 db m4 0 p.dz) := Lib.hid (by
                    have h := H13.out.1
                    rw [hdb] at h
                    exact ⟨⟨_, h, by simp [madeCells], fun v hv => by omega⟩, H13.out.2⟩)
                  have HDB : Hid (wx.heap.size ≤ db) := Lib.hid (by omega)
                  clear H13 hdb q1 lL2 q0
                  go_wp2_with fail
                  go_loopg [19] m4 (fun g y wu => ∃ k : Nat, y = .int .i64 (k : Int) ∧ k ≤ m4 ∧ m4 - k ≤ g ∧ Hid (Dd wx wu db m4 k p.dz))
                  case atStart => exact ⟨0, rfl, by omega, by omega, H14⟩
                  case round =>
                    obtain ⟨k, rfl, hk, hgk, HD⟩ := hrel
                    obtain ⟨wu, rfl⟩ : ∃ wu : World, wu = wr := ⟨_, rfl⟩
                    have HLU := Lib.hid (HLX.out.gb HD.out.2 (by simp))
                    have q1 : wu.cell? ⟨L2, 1, none⟩ = some (.slice da m4 dc) := HLU.out.cell 1
                    have lL2 := HLU.out.lt
                    rcases (show m4 = k ∨ k < m4 by omega) with he | hltk
                    · obtain rfl := he
                      have HTU := Lib.hid (HT6.out.gb (gb_trans HC.out.2 HD.out.2))
                      have HDR : Hid (DRow wu ib db p) := Lib.hid (by
                        obtain ⟨⟨cs, a1, a2, a3⟩, _⟩ := HC.out
                        obtain ⟨⟨ds, d1, d2, d3⟩, _⟩ := HD.out
                        exact ⟨⟨cs, a1.gb HD.out.2 (by simp), fun v hv => a3 v (by rw [HPZ.out.2.1] at hv; exact hv)⟩, ⟨ds, d1, fun v hv => d3 v (by rw [HPZ.out.2.2.1] at hv; exact hv)⟩⟩)
                      have HNX := Lib.hid (HTU.out.next hltj HTB.out.1 HPZ.out.1 HDR.out)
                      obtain ⟨⟨ts, t1, t2, _⟩, _⟩ := HTU.out
                      have hne : ¬ L2 = tb := blk_ne HLU.out t1 (by decide)
                      have q2 : wu.cell? ⟨L2, 2, none⟩ = some (.bool cb) := HLU.out.cell 2
                      have q3 : wu.cell? ⟨L2, 3, none⟩ = some (.bool fb) := HLU.out.cell 3
                      have lT := t1.lt
                      have f2 := t1.free (j * 11 + 2)
                      obtain ⟨v2, k2⟩ := t1.has (i := j * 11 + 2) (by omega)
                      have h2 := t1.set (j * 11 + 2) (.slice (some ⟨ib, 0, none⟩) m3 m3)
                      have f7 := h2.free (j * 11 + 7)
                      obtain ⟨v7, k7⟩ := h2.has (i := j * 11 + 7) (by simp; omega)
                      have h7 := h2.set (j * 11 + 7) (.slice (some ⟨db, 0, none⟩) m4 m4)
                      have f8 := h7.free (j * 11 + 8)
                      obtain ⟨v8, k8⟩ := h7.has (i := j * 11 + 8) (by simp; omega)
                      have h8 := h7.set (j * 11 + 8) (.bool cb)
                      have f9 := h8.free (j * 11 + 9)
                      obtain ⟨v9, k9⟩ := h8.has (i := j * 11 + 9) (by simp; omega)
                      clear t1 t2 h2 h7 h8
                      go_wp2_with fail
                      go_roundg (gP - 1)
                      case measure => omega
                      case rel =>
                        have h := HNX.out
                        unfold put4T at h
                        rw [HPZ.out.2.1, HPZ.out.2.2.1, HPZ.out.2.2.2.1, HPZ.out.2.2.2.2] at h
                        exact ⟨j + 1, by go_num, by omega, by omega, Lib.hid h⟩
                    · obtain ⟨b3, off3, hda, lb0, e0, e1⟩ := HRD.out.2.at (i := k) (by rw [HPZ.out.2.2.1]; exact hltk)
                      have HGU := Lib.hid (gb_trans (gb_trans (gb_trans HGV.out H9.out.1) HC.out.2) HD.out.2)
                      have s0 : wu.cell? ⟨b3, off3 + k * 2, none⟩ = some (.int .u32 (dp p.dz k).1) := cell_k (below_of HGU.out) lb0 e0
                      have lb3 : b3 < wu.heap.size := Nat.lt_of_lt_of_le lb0 HGU.out.size
                      rw [hda] at q1
                      have HE1 := Lib.hid (And.intro e1 lb0)
                      have H15 := Lib.hid (HD.out.one hltk HDB.out)
                      obtain ⟨lD, ⟨u, g0⟩, fz⟩ := HD.out.hf hltk
                      have f0 := fz (k * 2)
                      obtain ⟨y0, hy0⟩ : ∃ y, (dp p.dz k).1 = y := ⟨_, rfl⟩
                      rw [hy0] at s0 H15
                      have HL2D : Hid (Blk (wu.setCell ⟨db, k * 2, none⟩ (.int .u32 y0)) L2 126 #[.slice ia m3 ic, .slice da m4 dc, .bool cb, .bool fb] ∧ w.grownBy (wu.setCell ⟨db, k * 2, none⟩ (.int .u32 y0)) none) := Lib.hid (by
                        obtain ⟨⟨ds, d1, _⟩, _⟩ := HD.out
                        have hg : wu.grownBy (wu.setCell ⟨db, k * 2, none⟩ (.int .u32 y0)) (some db) := gb_set (gb_refl _ _) _ _ _
                        exact ⟨kt_past d1 hg (by decide) _ _ HLU.out, gb_new (gb_trans (gb_none HGU.out) hg) (Nat.le_trans (gb_trans (gb_trans HGV.out H9.out.1) HC.out.2).size HDB.out)⟩)
                      clear fz hy0 e0 e1 lb0
                      go_upto_region 32 with fail
                      clear s0 q1 lL2 lb3 lD g0 f0
                      generalize wu.setCell ⟨db, k * 2, none⟩ (.int .u32 y0) = w10 at H15 HL2D ⊢
                      have q1 : w10.cell? ⟨L2, 1, none⟩ = some (.slice da m4 dc) := HL2D.out.1.cell 1
                      have lL2 := HL2D.out.1.lt
                      have s1 : w10.cell? ⟨b3, off3 + k * 2 + 1, none⟩ = some (.int .u32 (dp p.dz k).2) := cell_k (below_of HL2D.out.2) HE1.out.2 HE1.out.1
                      have lb3 : b3 < w10.heap.size := Nat.lt_of_lt_of_le HE1.out.2 HL2D.out.2.size
                      rw [hda] at q1
                      have H16 := Lib.hid (H15.out.two hltk HDB.out)
                      obtain ⟨lD, ⟨u, g0⟩, fz⟩ := H15.out.hf hltk
                      have f0 := fz (k * 2 + 1)
                      obtain ⟨y1, hy1⟩ : ∃ y, (dp p.dz k).2 = y := ⟨_, rfl⟩
                      rw [hy1] at s1 H16
                      clear fz hy1 hda
                      go_wp2_with fail
                      go_roundg (gk - 1)
                      case measure => omega
                      case rel => exact ⟨k + 1, by go_num, by omega, by omega, H16⟩
                · obtain ⟨b3, off3, hia, lb0, e0⟩ := HRD.out.1.at (i := k) (by rw [HPZ.out.2.1]; exact hltk)
                  have hgx := gb_trans (gb_trans HGV.out H9.out.1) HC.out.2
                  have s0 : wx.cell? ⟨b3, off3 + k, none⟩ = some (.int .u32 (nth p.rz k)) := cell_k (below_of hgx) lb0 e0
                  have lb3 : b3 < wx.heap.size := Nat.lt_of_lt_of_le lb0 hgx.size
                  rw [hia] at q0
                  have H14 := Lib.hid (HC.out.next hltk HIB.out)
                  obtain ⟨⟨ds, d1, d2, d3⟩, d4⟩ := HC.out
                  obtain ⟨u, g0⟩ := d1.has (i := k) (by omega)
                  have f0 := d1.free k
                  have lD := d1.lt
                  obtain ⟨y, hy⟩ : ∃ y, nth p.rz k = y := ⟨_, rfl⟩
                  rw [hy] at s0 H14
                  clear d1 d2 d3 d4 e0 lb0 hy hgx hia
                  go_wp2_with fail
                  go_roundg (gk - 1)
                  case measure => omega
                  case rel => exact ⟨k + 1, by go_num, by omega, by omega, H14⟩
        · obtain ⟨b2, off2, hra, lb0, e0, e1, e2⟩ := HR.out.1.at (i := k) (by rw [HZ.out.2.1]; exact hltk)
          have hgw := gb_trans HQ3.out.1.g HC.out.2
          have s0 : wy.cell? ⟨b2, off2 + k * 3, none⟩ = some (.int .i32 (rc z.rs k).tg) := cell_k (below_of hgw) lb0 e0
          have s1 : wy.cell? ⟨b2, off2 + k * 3 + 1, none⟩ = some (.int .u8 (rc z.rs k).kd) := cell_k (below_of hgw) lb0 e1
          have s2 : wy.cell? ⟨b2, off2 + k * 3 + 2, none⟩ = some (.bool (rc z.rs k).ex) := cell_k (below_of hgw) lb0 e2
          have lb2 : b2 < wy.heap.size := Nat.lt_of_lt_of_le lb0 hgw.size
          rw [hra] at q3
          have htg := HZL.out.2.2 k (by rw [HZ.out.2.1]; exact hltk)
          rw [HN.out.1] at htg
          obtain ⟨y0, hy0⟩ : ∃ y, (rc z.rs k).tg = y := ⟨_, rfl⟩
          obtain ⟨y1, hy1⟩ : ∃ y, (rc z.rs k).kd = y := ⟨_, rfl⟩
          obtain ⟨y2, hy2⟩ : ∃ y, (rc z.rs k).ex = y := ⟨_, rfl⟩
          rw [hy0] at s0 htg
          rw [hy1] at s1
          rw [hy2] at s2
          have HY := Lib.hid (And.intro hy0 (And.intro hy1 hy2))
          clear hy0 hy1 hy2 e0 e1 e2 lb0 hgw hra
          obtain ⟨L2, hL2⟩ : ∃ L, wy.heap.size = L := ⟨_, rfl⟩
          go_upto_region 12 with fail
          clear s0 s1 s2 lb2 q3 lL
          have H6 : Hid (wy.grownBy (wy.alloc (.cells #[.int .i32 y0, .int .u8 y1, .bool y2] 128)) none ∧ Blk (wy.alloc (.cells #[.int .i32 y0, .int .u8 y1, .bool y2] 128)) L2 128 #[.int .i32 y0, .int .u8 y1, .bool y2]) := Lib.hid (by
            refine ⟨gb_alloc (gb_refl _ _) _, ?_⟩
            have := Blk.new wy 128 #[.int .i32 y0, .int .u8 y1, .bool y2]
            rwa [hL2] at this)
          clear hL2
          generalize wy.alloc (.cells #[.int .i32 y0, .int .u8 y1, .bool y2] 128) = w5 at H6 ⊢
          have H7 := Lib.hid (HC.out.gb H6.out.1)
          have q1 : w5.cell? ⟨L2, 1, none⟩ = some (.int .u8 y1) := H6.out.2.cell 1
          have lL2 := H6.out.2.lt
          obtain ⟨lR, ⟨u14, k14⟩, fz⟩ := H7.out.hf hltk
          have f14 := fz (k * 15 + 14)
          have H8 : Hid (Rt w3 (w5.setCell ⟨rb, k * 15 + 14, none⟩ (.int .u8 y1)) rb m1 k z.rs L2 #[.int .i32 y0, .int .u8 y1, .bool y2] 0 0) := Lib.hid (by
            have h := H7.out.kind hltk HRB.out H6.out.2
            rw [HY.out.2.1] at h
            exact h)
          clear fz
          go_upto_region 13 with fail
          clear q1 lL2 lR k14 f14 H6 H7
          generalize w5.setCell ⟨rb, k * 15 + 14, none⟩ (.int .u8 y1) = w6 at H8 ⊢
          have q0 : w6.cell? ⟨L2, 0, none⟩ = some (.int .i32 y0) := H8.out.2.1.cell 0
          have lL2 := H8.out.2.1.lt
          go_upto_if 61 with fail
          go_cut [] (fun wc => Hid (Rt w3 wc rb m1 k z.rs L2 #[.int .i32 y0, .int .u8 y1, .bool y2] (fl y0) 0))
          case first =>
            by_cases ht0 : 0 ≤ y0
            · obtain ⟨c, rfl⟩ : ∃ c : Nat, y0 = (c : Int) := ⟨y0.toNat, by omega⟩
              have wr1 : IntKind.u32.wrap (c : Int) = (c : Int) := by rw [IntKind.wrap_u32]; omega
              have HMK := Lib.hid (fun w => mk_any (c : Int) (by omega) (by omega) w)
              have HFL : Hid (fl (c : Int) = 4294967295 - (c : Int)) := Lib.hid (by unfold fl; rw [if_pos (by omega)])
              have d0 : decide ((0 : Int) ≤ (c : Int)) = true := by simp
              clear htg ht0
              go_wp2_with (go_at_call 10; refine (HMK.out _).mono ?_; rintro e w7 ⟨rfl, hg7⟩; have H9 := Lib.hid (H8.out.gb hg7); obtain ⟨l7, ⟨u10, k10⟩, _, fz⟩ := H9.out.hf; have f10 := fz (k * 15 + 10); clear fz hg7)
              go_meet
              exact Lib.hid (by rw [HFL.out]; exact H9.out.set10 hltk HRB.out _)
            · have d0 : decide ((0 : Int) ≤ y0) = false := by simp; omega
              have HFL : Hid (fl y0 = 0) := Lib.hid (by unfold fl; rw [if_neg ht0])
              rw [d0]
              clear ht0 htg
              go_wp2_with fail
              go_meet
              exact Lib.hid (by rw [HFL.out]; exact H8.out)
          case rest =>
            obtain ⟨wa, rfl⟩ : ∃ wa : World, wa = wc := ⟨_, rfl⟩
            have H9 := hcut
            clear hcut q0 lL2 H8 htg
            have q2 : wa.cell? ⟨L2, 2, none⟩ = some (.bool y2) := H9.out.2.1.cell 2
            have lL2 := H9.out.2.1.lt
            obtain ⟨lR, _, ⟨u12, k12⟩, fz⟩ := H9.out.hf
            have f12 := fz (k * 15 + 12)
            clear fz
            cases y2 with
            | true =>
              go_wp2_with fail
              go_roundg (gk - 1)
              case measure => omega
              case rel => exact ⟨k + 1, by go_num, by omega, by omega, Lib.hid ((H9.out.set12 hltk HRB.out 1024).done (by rw [HY.out.1]) (by rw [HY.out.2.2]; rfl))⟩
            | false =>
              go_wp2_with fail
              go_roundg (gk - 1)
              case measure => omega
              case rel => exact ⟨k + 1, by go_num, by omega, by omega, Lib.hid (H9.out.done (by rw [HY.out.1]) (by rw [HY.out.2.2]; rfl))⟩
end Go.Proofs.Ytebecbidodnneaa
