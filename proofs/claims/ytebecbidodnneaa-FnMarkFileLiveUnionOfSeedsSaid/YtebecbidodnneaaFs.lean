/-
  markFileLiveForTreeShaking: one file, not marked yet. No statement of the seat is proved here.
-/
import Derived.Test.YtebecbidodnneaaPs
namespace Go.Proofs.Ytebecbidodnneaa
open Go.RowKit
set_option linter.unusedVariables false
set_option linter.unusedSimpArgs false

set_option maxHeartbeats 0 in
set_option maxRecDepth 100000 in
theorem f_step (C O F : Nat) (P R T : Nat → Nat) (fs : List Wf) (ig : Bool) (hok : OkE fs) (K : Nat) (ih : IHs C O F P R T fs ig K) (a : Nat) (ha : a < fs.length) (d : Nat → Bool) (hd : d (cf a) = false)
    (hk : cnt d (fs.length * MM) ≤ K + 1) (w : World) (hs : St w C O F P R T fs ig d) :
    Calls Try.prog 15 #[.pointer (some ⟨C, 0, none⟩), .int .u32 (a : Int)] w (DfsE C O F P R T fs ig (cf a) d w) := by
  obtain ⟨c1, l1, c2, l2, c3, c4, ff⟩ := hs.fcell ha
  rw [hd] at c4
  have f23 := ff (a * 24 + 23)
  have HA := Lib.hid ha
  have H1 : Hid (St (w.setCell ⟨F, a * 24 + 23, none⟩ (.bool true)) C O F P R T fs ig (fun x => d x || x == cf a) ∧ Ext F T fs.length w (w.setCell ⟨F, a * 24 + 23, none⟩ (.bool true))) := Lib.hid ⟨hs.markF hok ha, Ext.of_f (gb_set (gb_refl _ _) _ _ _)⟩
  have HD := Lib.hid hd
  have HK := Lib.hid hk
  have HIH := Lib.hid ih
  have HOK := Lib.hid hok
  obtain ⟨n, hn⟩ : ∃ n, fs.length = n := ⟨_, rfl⟩
  rw [hn] at c1
  have ha' : a < n := by omega
  have hn4 : n ≤ 4096 := by have := hok.n; omega
  have HN := Lib.hid hn
  clear hs hd hok ha hn hk ih ff
  go_enter Try.func15, Try.ntmps15
  go_upto_region 3 with fail
  clear c1 l1 c2 l2 c3 c4 f23
  generalize w.setCell ⟨F, a * 24 + 23, none⟩ (.bool true) = w1 at H1 ⊢
  obtain ⟨d1, hd1⟩ : ∃ d1, (fun x => d x || x == cf a) = d1 := ⟨_, rfl⟩
  rw [hd1] at H1
  have HCN : Hid (∀ d' : Nat → Bool, (∀ v, d1 v = true → d' v = true) → cnt d' (fs.length * MM) ≤ K) := Lib.hid (fun d' hm => cnt_of HD.out (cf_lt HA.out) HK.out (fun v hv => hm v (by rw [← hd1]; exact hv)))
  have HD1 := Lib.hid hd1
  clear hd1
  obtain ⟨z, hz⟩ : ∃ z, wf fs a = z := ⟨_, rfl⟩
  have HZ := Lib.hid hz
  obtain ⟨_, _, c2, l2, _⟩ := H1.out.1.fcell HA.out
  obtain ⟨_, _, p3, lp⟩ := H1.out.1.pcell HA.out
  rw [hz] at p3
  have hta := ta123t (P a) w1
  have hcn : z.css < (n : Int) := by have := HOK.out.css a HA.out; rw [hz, HN.out] at this; exact this
  obtain ⟨x, hx⟩ : ∃ x, fl z.css = x := ⟨_, rfl⟩
  rw [hx] at p3
  have HX := Lib.hid hx
  clear hz hx
  go_upto_if 43 with (go_at_call 16; refine (valid_any _ _).mono ?_; rintro e w2 ⟨rfl, hg2⟩; have H2 : Hid (St w2 C O F P R T fs ig d1 ∧ Ext F T fs.length w w2) := Lib.hid ⟨H1.out.1.gb hg2, H1.out.2.trans (Ext.of_gb hg2)⟩; obtain ⟨_, _, p4, lp4⟩ := H2.out.1.pcell HA.out; rw [HZ.out, HX.out] at p4; clear hg2)
  clear c2 l2 p3 lp hta
  go_cut [] (fun wc => Hid (∃ d', Lp C O F P R T fs ig (nbP fs ig z a 0) d1 w wc d'))
  case first =>
    by_cases hc0 : 0 ≤ z.css
    · obtain ⟨c, hc⟩ : ∃ c : Nat, z.css = (c : Int) := ⟨z.css.toNat, by omega⟩
      have hxc : x = 4294967295 - (c : Int) := by
        rw [← HX.out]
        unfold fl
        rw [if_pos hc0, hc]
      subst hxc
      have hcc : c < n := by omega
      have e3 : decide (4294967295 - (c : Int) = 0) = false := by simp; omega
      have e4 : (4294967295 - (c : Int) == 0) = false := by simp; omega
      have HGI := Lib.hid (fun w => geti_any (c : Int) (by omega) (by omega) w)
      have HNB : Hid (c < fs.length ∧ nbP fs ig z a 0 = [cf c]) := Lib.hid ⟨by rw [HN.out]; exact hcc, by
        show cssN z = _
        unfold cssN
        rw [if_pos hc0, hc]; rfl⟩
      rw [e4]
      clear hc hc0 hcc hcn
      have HR := Lib.hid (fun (w5 : World) (hg : w2.grownBy w5 none) => HIH.out.f c d1 w5 HNB.out.1 (HCN.out d1 (fun v h => h)) (H2.out.1.gb hg))
      go_wp2_with (first | (go_at_call 17; refine (HGI.out _).mono ?_; rintro e w5 ⟨rfl, hg5⟩; have H5 := Lib.hid hg5; clear hg5) | (go_at_call 15; refine (HR.out _ H5.out).mono ?_; rintro e w6 ⟨rfl, d2, hs2, hm2, hx2⟩; have H6 := Lib.hid (And.intro hs2 (And.intro hm2 hx2)); clear hs2 hm2 hx2))
      go_meet
      exact Lib.hid ⟨d2, H6.out.1, by rw [HNB.out.2]; exact Mks.nil.snoc H6.out.2.1, (H2.out.2.trans (Ext.of_gb H5.out)).trans H6.out.2.2⟩
    · have hx0 : x = 0 := by
        rw [← HX.out]
        unfold fl
        rw [if_neg hc0]
      subst hx0
      have HNB : Hid (nbP fs ig z a 0 = []) := Lib.hid (by
        show cssN z = _
        unfold cssN
        rw [if_neg hc0])
      clear hc0 hcn
      go_wp2_with fail
      go_meet
      exact Lib.hid ⟨d1, H2.out.1, by rw [HNB.out]; exact Mks.nil, H2.out.2⟩
  case rest =>
    obtain ⟨w2', rfl⟩ : ∃ w2' : World, w2' = wc := ⟨_, rfl⟩
    have H3 := hcut
    clear hcut H1 H2 p4 lp4 HX hcn
    obtain ⟨d3, hl3⟩ := H3.out
    obtain ⟨p1, _, _, lp⟩ := hl3.st.pcell HA.out
    rw [HZ.out] at p1
    obtain ⟨m, hm⟩ : ∃ m, z.ps.length = m := ⟨_, rfl⟩
    rw [hm] at p1
    have hm20 : m ≤ 1048576 := by have := HOK.out.pl a HA.out; rw [HZ.out, hm] at this; exact this
    have HM := Lib.hid hm
    have HL3 := Lib.hid hl3
    clear hm hl3
    go_wp2_with fail
    clear p1 lp
    go_loopg [57] m (fun g y wx => ∃ j : Nat, y = .int .i64 (j : Int) ∧ j ≤ m ∧ m - j ≤ g ∧ Hid (∃ d', Lp C O F P R T fs ig (nbP fs ig z a j) d1 w wx d'))
    case atStart => exact ⟨0, rfl, by omega, by omega, Lib.hid ⟨_, HL3.out⟩⟩
    case round =>
      obtain ⟨j, rfl, hj, hg, HL⟩ := hrel
      obtain ⟨wz, rfl⟩ : ∃ wz : World, wz = wr := ⟨_, rfl⟩
      obtain ⟨gO, rfl⟩ : ∃ gO, gO = gk := ⟨_, rfl⟩
      rcases (show m = j ∨ j < m by omega) with he | hlt
      · obtain rfl := he
        go_wp2_with fail
        obtain ⟨d', hl⟩ := HL.out
        go_end0
        have hm := hl.mks
        rw [← HD1.out] at hm
        refine ⟨rfl, d', hl.st, Mks.close HD.out (fun h => h) (fun c => ?_) hm, hl.ex⟩
        have h := EE_f fs ig a c
        rw [HZ.out, HM.out] at h
        exact h
      · obtain ⟨d', hl⟩ := HL.out
        have HJ : Hid (j < (wf fs a).ps.length) := Lib.hid (by rw [HZ.out, HM.out]; exact hlt)
        obtain ⟨p, hp⟩ : ∃ p, pt z.ps j = p := ⟨_, rfl⟩
        obtain ⟨ib, db, ht, hdr, lt, _⟩ := hl.st.tcell HA.out HJ.out
        obtain ⟨lv, hlv⟩ : ∃ lv, d' (cp a j) = lv := ⟨_, rfl⟩
        rw [HZ.out, hp] at ht hdr
        rw [hlv] at ht
        have HP := Lib.hid hp
        obtain ⟨Q, hQ⟩ : ∃ Q, wz.heap.size = Q := ⟨_, rfl⟩
        have HQ : Hid (Q ≠ F ∧ ∀ v, v < fs.length → Q ≠ T v) := Lib.hid ⟨fun e => by
            obtain ⟨f1, f2, _⟩ := hl.st.f
            have := f2.lt
            omega, fun v hv e => by
            obtain ⟨t1, t2, _⟩ := hl.st.t v hv
            have := t2.lt
            omega⟩
        have HLZ := Lib.hid hl
        have HDR := Lib.hid hdr
        obtain ⟨mr, hmr⟩ : ∃ m, p.rz.length = m := ⟨_, rfl⟩
        obtain ⟨md, hmd⟩ : ∃ m, p.dz.length = m := ⟨_, rfl⟩
        obtain ⟨cb, hcb⟩ : ∃ m, p.cb = m := ⟨_, rfl⟩
        obtain ⟨fb, hfb⟩ : ∃ m, p.fb = m := ⟨_, rfl⟩
        have r0 := ht 0 (by omega)
        have r1 := ht 1 (by omega)
        have r2 := ht 2 (by omega)
        have r3 := ht 3 (by omega)
        have r4 := ht 4 (by omega)
        have r5 := ht 5 (by omega)
        have r6 := ht 6 (by omega)
        have r7 := ht 7 (by omega)
        have r8 := ht 8 (by omega)
        have r9 := ht 9 (by omega)
        have r10 := ht 10 (by omega)
        simp only [rowP, List.getElem?_cons_zero, List.getElem?_cons_succ, hmr, hmd, hcb, hfb] at r0 r1 r2 r3 r4 r5 r6 r7 r8 r9 r10
        rw [Nat.add_zero] at r0
        have hmr20 : mr ≤ 1048576 := by have := (HOK.out.zl a HA.out j HJ.out).1; rw [HZ.out, hp, hmr] at this; exact this
        have HPM := Lib.hid (And.intro hmr (And.intro hmd (And.intro hcb hfb)))
        clear ht hl hdr hp hlv
        go_upto_region 11 with fail
        clear r0 r1 r2 r3 r4 r5 r6 r7 r8 r9 r10 lt
        obtain ⟨w3, hw3⟩ : ∃ w3, (wz.alloc (.cells #[.slice none 0 0, .slice none 0 0, .slice (some ⟨ib, 0, none⟩) mr mr, .slice none 0 0, .map none, .map none, .map none, .slice (some ⟨db, 0, none⟩) md md, .bool cb, .bool fb, .bool lv] 74)) = w3 := ⟨_, rfl⟩
        have H4 : Hid (wz.grownBy w3 none ∧ Blk w3 Q 74 (rowP ib db p lv).toArray) := Lib.hid (by
          rw [← hw3]
          refine ⟨gb_alloc (gb_refl _ _) _, ?_⟩
          have := Blk.new wz 74 #[.slice none 0 0, .slice none 0 0, .slice (some ⟨ib, 0, none⟩) mr mr, .slice none 0 0, .map none, .map none, .map none, .slice (some ⟨db, 0, none⟩) md md, .bool cb, .bool fb, .bool lv]
          rw [hQ] at this
          unfold rowP
          rw [hmr, hmd, hcb, hfb]
          exact this)
        rw [hw3]
        clear hw3 hQ hmr hmd hcb hfb
        have HI0 : Hid (Ip C O F P R T fs ig a j Q ib db d1 lv 0 cb w w3) := Lib.hid (by
          refine ⟨⟨d', ?_⟩, ?_, ?_, HQ.out.1, HQ.out.2, ?_⟩
          · rw [HZ.out]
            show Lp C O F P R T fs ig (nbP fs ig z a j ++ []) d1 w w3 d'
            rw [List.append_nil]
            exact HLZ.out.gb H4.out.1
          · rw [HZ.out, HP.out]; exact H4.out.2
          · rw [HZ.out, HP.out]; exact HDR.out.gb H4.out.1 (by simp) (by simp)
          · rw [HZ.out, HP.out, HPM.out.2.2.1]
            show cb = (cb && !false)
            simp)
        have HQC : Hid (∀ k cv wx, Ip C O F P R T fs ig a j Q ib db d1 lv k cv w wx → wx.cell? ⟨Q, 9, none⟩ = some (.bool fb) ∧ Q < wx.heap.size) := Lib.hid (fun k cv wx h => by
          have hq := h.qq
          rw [HZ.out, HP.out] at hq
          refine ⟨(hq.cell 9).trans ?_, hq.lt⟩
          show some (Value.bool p.fb) = _
          rw [HPM.out.2.2.2])
        have q2 : w3.cell? ⟨Q, 2, none⟩ = some (.slice (some ⟨ib, 0, none⟩) mr mr) := by
          refine (H4.out.2.cell 2).trans ?_
          show some (Value.slice (some ⟨ib, 0, none⟩) p.rz.length p.rz.length) = _
          rw [HPM.out.1]
        have q8 : w3.cell? ⟨Q, 8, none⟩ = some (.bool cb) := by
          refine (H4.out.2.cell 8).trans ?_
          show some (Value.bool p.cb) = _
          rw [HPM.out.2.2.1]
        have lQ := H4.out.2.lt
        clear H4 HLZ HDR
        go_wp2_with fail
        clear q2 q8 lQ
        go_loopg [8, 67] mr (fun g x y wx => ∃ (k : Nat) (cv : Bool), x = .bool cv ∧ y = .int .i64 (k : Int) ∧ k ≤ mr ∧ mr - k ≤ g ∧ Hid (Ip C O F P R T fs ig a j Q ib db d1 lv k cv w wx))
        case atStart => exact ⟨0, cb, rfl, rfl, by omega, by omega, HI0⟩
        case round =>
          obtain ⟨k, cv, rfl, rfl, hk, hgi, HI⟩ := hrel
          obtain ⟨wy, rfl⟩ : ∃ wy : World, wy = wr := ⟨_, rfl⟩
          rcases (show mr = k ∨ k < mr by omega) with he | hlk
          · obtain rfl := he
            have HIE : Hid (Ip C O F P R T fs ig a j Q ib db d1 lv (pt (wf fs a).ps j).rz.length cv w wy) := Lib.hid (by
              have h := HI.out
              rw [HZ.out, HP.out, HPM.out.1]
              exact h)
            cases cv with
            | true =>
              obtain ⟨q9, lQ⟩ := HQC.out _ _ _ HI.out
              obtain ⟨d4, hl4⟩ := HI.out.lp
              obtain ⟨o1, _, o3, lO⟩ := hl4.st.ocell
              obtain ⟨_, lC, _⟩ := hl4.st.fcell HA.out
              clear hl4
              cases fb
              all_goals
                go_wp2_with fail
                go_roundg (gO - 1)
                case measure => omega
                case rel => exact ⟨j + 1, by go_num, by omega, by omega, Lib.hid (by have h := HIE.out.off; rw [HZ.out] at h; exact h)⟩
            | false =>
              obtain ⟨d4, hl4⟩ := HIE.out.lp
              have HL4 := Lib.hid hl4
              clear hl4
              have wj : IntKind.u32.wrap (j : Int) = (j : Int) := by rw [IntKind.wrap_u32]; omega
              have HR := Lib.hid (HIH.out.p a j d4 wy HA.out HJ.out (HCN.out d4 HL4.out.mks.mono) HL4.out.st)
              go_wp2_with (go_at_call 20; refine HR.out.mono ?_; rintro e w6 ⟨rfl, d2, hs2, hm2, hx2⟩; have H6 := Lib.hid (And.intro hs2 (And.intro hm2 hx2)); clear hs2 hm2 hx2)
              go_roundg (gO - 1)
              case measure => clear wj; omega
              case rel =>
                clear wj
                exact ⟨j + 1, by go_num, by omega, by omega, Lib.hid (by have h := HIE.out.on d4 d2 HL4.out H6.out.1 H6.out.2.1 H6.out.2.2; rw [HZ.out] at h; exact h)⟩
          · obtain ⟨d4, hl4⟩ := HI.out.lp
            obtain ⟨⟨bs, i1, i2⟩, _⟩ := HI.out.dr
            rw [HZ.out, HP.out] at i2
            have i3 := (i1.cell k).trans (i2 k (by rw [HPM.out.1]; exact hlk))
            have li := i1.lt
            have hrz := HOK.out.rz a HA.out j HJ.out k (by rw [HZ.out, HP.out, HPM.out.1]; exact hlk)
            rw [HZ.out, HP.out] at hrz
            obtain ⟨r, hr⟩ : ∃ r : Nat, nth p.rz k = (r : Int) := ⟨(nth p.rz k).toNat, by omega⟩
            rw [hr] at i3 hrz
            obtain ⟨u, hu⟩ : ∃ u, rc z.rs r = u := ⟨_, rfl⟩
            have hrl : r < (wf fs a).rs.length := by rw [HZ.out]; omega
            obtain ⟨ms, hms⟩ : ∃ m, z.rs.length = m := ⟨_, rfl⟩
            obtain ⟨_, p2, _, lP⟩ := hl4.st.pcell HA.out
            obtain ⟨r10, r12, r14, lR⟩ := hl4.st.rcell HA.out hrl
            rw [HZ.out, hu] at r10 r12 r14
            rw [HZ.out, hms] at p2
            have hrm : r < ms := by rw [← hms]; omega
            have htg := HOK.out.tg a HA.out r hrl
            have hm5 : ms ≤ 1048576 := by have := HOK.out.rl a HA.out; rw [HZ.out, hms] at this; exact this
            rw [HZ.out, hu, HN.out] at htg
            have HU : Hid (rc (wf fs a).rs (nth (pt (wf fs a).ps j).rz k).toNat = u) := Lib.hid (by rw [HZ.out, HP.out, hr, Int.toNat_natCast, hu])
            have HL4 := Lib.hid hl4
            have HRL := Lib.hid (And.intro hrl hu)
            clear hl4 i1 i2 hrz hr hu hms hrl
            obtain ⟨kd, hkd⟩ : ∃ kd, u.kd = kd := ⟨_, rfl⟩
            obtain ⟨tg, htg'⟩ : ∃ tg, u.tg = tg := ⟨_, rfl⟩
            obtain ⟨ex, hex⟩ : ∃ ex, u.ex = ex := ⟨_, rfl⟩
            rw [hkd] at r14
            rw [htg'] at r10 htg
            rw [hex] at r12
            have HE := Lib.hid (And.intro hkd (And.intro htg' hex))
            clear hkd htg' hex
            by_cases hk1 : kd = 1
            · subst hk1
              by_cases ht0 : 0 ≤ tg
              · obtain ⟨c, rfl⟩ : ∃ c : Nat, tg = (c : Int) := ⟨tg.toNat, by omega⟩
                have hcn : c < n := by omega
                have hfl : fl (c : Int) = 4294967295 - (c : Int) := by unfold fl; rw [if_pos (by omega)]
                rw [hfl] at r10
                have e3 : decide (4294967295 - (c : Int) = 0) = false := by simp; omega
                have e4 : (4294967295 - (c : Int) == 0) = false := by simp; omega
                have HGI := Lib.hid (fun w => geti_any (c : Int) (by omega) (by omega) w)
                have HCF : Hid (c < fs.length) := Lib.hid (by rw [HN.out]; exact hcn)
                obtain ⟨se, hse⟩ : ∃ se, (wf fs c).se = se := ⟨_, rfl⟩
                have HRN : Hid (recN fs ig u = (if (se || ig) = true then [cf c] else []) ∧ keepR fs ig u = (se || ig)) := Lib.hid (by
                  unfold recN keepR recG
                  rw [HE.out.1, HE.out.2.1, Int.toNat_natCast, hse]
                  refine ⟨?_, by simp⟩
                  cases h : (se || ig) <;> simp)
                have HSE := Lib.hid hse
                have HR := Lib.hid (fun (w5 : World) (hg : wy.grownBy w5 none) => HIH.out.f c d4 w5 HCF.out (HCN.out d4 HL4.out.mks.mono) (HL4.out.st.gb hg))
                clear hfl ht0 hse htg
                cases se with
                | true =>
                  go_wp2_with (first
                    | (go_at_call 16; refine (valid_any _ _).mono ?_; rintro e w4 ⟨rfl, hg4⟩; have HG4 := Lib.hid hg4; obtain ⟨s10, s12, _, lR4⟩ := (HL4.out.st.gb hg4).rcell HA.out HRL.out.1; rw [HZ.out, HRL.out.2, HE.out.2.1, show fl (c : Int) = 4294967295 - (c : Int) by unfold fl; rw [if_pos (by omega)]] at s10; clear hg4)
                    | (go_at_call 17; refine (HGI.out _).mono ?_; rintro e w5 ⟨rfl, hg5⟩; have HG5 := Lib.hid (gb_trans HG4.out hg5); obtain ⟨t1, lC5, t2, lF5, t3, _⟩ := (HL4.out.st.gb HG5.out).fcell HCF.out; rw [HN.out] at t1; rw [HSE.out] at t3; have t3 : w5.cell? ⟨F, c * 24 + 7, none⟩ = some (.int .u8 0) := t3; clear hg5)
                    | (go_at_call 15; refine (HR.out _ HG5.out).mono ?_; rintro e w6 ⟨rfl, d2, hs2, hm2, hx2⟩; have H6 := Lib.hid (And.intro hs2 (And.intro hm2 hx2)); clear hs2 hm2 hx2))
                  go_roundg (gk - 1)
                  case measure => omega
                  case rel => exact ⟨k + 1, false, rfl, by go_num, by omega, by omega, Lib.hid ((HI.out.gb HG5.out).call HU.out (by rw [HRN.out.1]; rfl) (by rw [HRN.out.2]; rfl) d4 d2 (HL4.out.gb HG5.out) H6.out.1 H6.out.2.1 H6.out.2.2)⟩
                | false =>
                  cases ig with
                  | true =>
                    go_wp2_with (first
                      | (go_at_call 16; refine (valid_any _ _).mono ?_; rintro e w4 ⟨rfl, hg4⟩; have HG4 := Lib.hid hg4; obtain ⟨s10, s12, _, lR4⟩ := (HL4.out.st.gb hg4).rcell HA.out HRL.out.1; rw [HZ.out, HRL.out.2, HE.out.2.1, show fl (c : Int) = 4294967295 - (c : Int) by unfold fl; rw [if_pos (by omega)]] at s10; clear hg4)
                      | (go_at_call 17; refine (HGI.out _).mono ?_; rintro e w5 ⟨rfl, hg5⟩; have HG5 := Lib.hid (gb_trans HG4.out hg5); obtain ⟨t1, lC5, t2, lF5, t3, _⟩ := (HL4.out.st.gb HG5.out).fcell HCF.out; rw [HN.out] at t1; rw [HSE.out] at t3; have t3 : w5.cell? ⟨F, c * 24 + 7, none⟩ = some (.int .u8 1) := t3; obtain ⟨o1, o2, _, lO5⟩ := (HL4.out.st.gb HG5.out).ocell; clear hg5)
                      | (go_at_call 15; refine (HR.out _ HG5.out).mono ?_; rintro e w6 ⟨rfl, d2, hs2, hm2, hx2⟩; have H6 := Lib.hid (And.intro hs2 (And.intro hm2 hx2)); clear hs2 hm2 hx2))
                    go_roundg (gk - 1)
                    case measure => omega
                    case rel => exact ⟨k + 1, false, rfl, by go_num, by omega, by omega, Lib.hid ((HI.out.gb HG5.out).call HU.out (by rw [HRN.out.1]; rfl) (by rw [HRN.out.2]; rfl) d4 d2 (HL4.out.gb HG5.out) H6.out.1 H6.out.2.1 H6.out.2.2)⟩
                  | false =>
                    go_wp2_with (first
                      | (go_at_call 16; refine (valid_any _ _).mono ?_; rintro e w4 ⟨rfl, hg4⟩; have HG4 := Lib.hid hg4; obtain ⟨s10, s12, _, lR4⟩ := (HL4.out.st.gb hg4).rcell HA.out HRL.out.1; rw [HZ.out, HRL.out.2, HE.out.2.1, show fl (c : Int) = 4294967295 - (c : Int) by unfold fl; rw [if_pos (by omega)]] at s10; clear hg4)
                      | (go_at_call 17; refine (HGI.out _).mono ?_; rintro e w5 ⟨rfl, hg5⟩; have HG5 := Lib.hid (gb_trans HG4.out hg5); obtain ⟨t1, lC5, t2, lF5, t3, _⟩ := (HL4.out.st.gb HG5.out).fcell HCF.out; rw [HN.out] at t1; rw [HSE.out] at t3; have t3 : w5.cell? ⟨F, c * 24 + 7, none⟩ = some (.int .u8 1) := t3; obtain ⟨o1, o2, _, lO5⟩ := (HL4.out.st.gb HG5.out).ocell; clear hg5))
                    go_roundg (gk - 1)
                    case measure => omega
                    case rel => exact ⟨k + 1, cv, rfl, by go_num, by omega, by omega, Lib.hid ((HI.out.gb HG5.out).skip HU.out (by rw [HRN.out.1]; rfl) (by rw [HRN.out.2]; rfl))⟩
              · have hfl : fl tg = 0 := by unfold fl; rw [if_neg ht0]
                rw [hfl] at r10
                have HRN : Hid (recN fs ig u = [] ∧ keepR fs ig u = !ex) := Lib.hid (by
                  unfold recN keepR
                  rw [HE.out.1, HE.out.2.1, HE.out.2.2]
                  refine ⟨by rw [if_neg (fun h => ht0 h.2.1)], by rw [if_pos rfl, if_neg ht0]⟩)
                clear hfl ht0 htg
                cases ex with
                | true =>
                  go_wp2_with (first
                    | (go_at_call 16; refine (valid_any _ _).mono ?_; rintro e w4 ⟨rfl, hg4⟩; have HG4 := Lib.hid hg4; obtain ⟨_, s12, _, lR4⟩ := (HL4.out.st.gb hg4).rcell HA.out HRL.out.1; rw [HZ.out, HRL.out.2, HE.out.2.2] at s12; clear hg4)
                    | (go_at_call 18; refine (has_any true _).mono ?_; rintro e w5 ⟨rfl, hw5⟩; obtain rfl := hw5.symm))
                  go_roundg (gk - 1)
                  case measure => omega
                  case rel => exact ⟨k + 1, cv, rfl, by go_num, by omega, by omega, Lib.hid ((HI.out.gb HG4.out).skip HU.out HRN.out.1 HRN.out.2)⟩
                | false =>
                  go_wp2_with (first
                    | (go_at_call 16; refine (valid_any _ _).mono ?_; rintro e w4 ⟨rfl, hg4⟩; have HG4 := Lib.hid hg4; obtain ⟨_, s12, _, lR4⟩ := (HL4.out.st.gb hg4).rcell HA.out HRL.out.1; rw [HZ.out, HRL.out.2, HE.out.2.2] at s12; clear hg4)
                    | (go_at_call 18; refine (has_any false _).mono ?_; rintro e w5 ⟨rfl, hw5⟩; obtain rfl := hw5.symm))
                  go_roundg (gk - 1)
                  case measure => omega
                  case rel => exact ⟨k + 1, false, rfl, by go_num, by omega, by omega, Lib.hid ((HI.out.gb HG4.out).keep HU.out HRN.out.1 HRN.out.2)⟩
            · have e1 : decide (kd = 1) = false := by simp [hk1]
              have e2 : (kd == 1) = false := by simp [hk1]
              have HRN : Hid (recN fs ig u = [] ∧ keepR fs ig u = false) := Lib.hid (by
                unfold recN keepR
                rw [HE.out.1]
                exact ⟨by rw [if_neg (fun h => hk1 h.1)], by rw [if_neg hk1]⟩)
              clear hk1 htg
              go_wp2_with fail
              go_roundg (gk - 1)
              case measure => omega
              case rel => exact ⟨k + 1, cv, rfl, by go_num, by omega, by omega, Lib.hid (HI.out.skip HU.out HRN.out.1 HRN.out.2)⟩
theorem ih_any (C O F : Nat) (P R T : Nat → Nat) (fs : List Wf) (ig : Bool) (hok : OkE fs) : ∀ k, IHs C O F P R T fs ig k
  | 0 => ⟨fun a d w ha hk hs => f_done C O F P R T fs ig hok a ha d (cnt_zero (fs.length * MM) (by omega) (cf_lt ha)) w hs,
    fun a b d w ha hb hk hs => p_done C O F P R T fs ig hok a b ha hb d (cnt_zero (fs.length * MM) (by omega) (cp_lt ha (by have := hok.pl a ha; omega))) w hs⟩
  | k + 1 => ⟨fun a d w ha hk hs => by
      cases hd : d (cf a) with
      | true => exact f_done C O F P R T fs ig hok a ha d hd w hs
      | false => exact f_step C O F P R T fs ig hok k (ih_any C O F P R T fs ig hok k) a ha d hd hk w hs,
    fun a b d w ha hb hk hs => by
      cases hd : d (cp a b) with
      | true => exact p_done C O F P R T fs ig hok a b ha hb d hd w hs
      | false => exact p_step C O F P R T fs ig hok k (ih_any C O F P R T fs ig hok k) a b ha hb d hd hk w hs⟩
theorem dfs_any (C O F : Nat) (P R T : Nat → Nat) (fs : List Wf) (ig : Bool) (hok : OkE fs) (a : Nat) (d : Nat → Bool) (w : World) (ha : a < fs.length) (hs : St w C O F P R T fs ig d) :
    Calls Try.prog 15 #[.pointer (some ⟨C, 0, none⟩), .int .u32 (a : Int)] w (DfsE C O F P R T fs ig (cf a) d w) :=
  (ih_any C O F P R T fs ig hok (cnt d (fs.length * MM))).f a d w ha (Nat.le_refl _) hs
end Go.Proofs.Ytebecbidodnneaa
