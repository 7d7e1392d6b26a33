/-
  The law's walk. No statement of the seat is proved here.
-/
import Derived.Test.YtmpfgkiljfoicaaDoorLh
import Derived.Deep.DeepCutAuto
import Derived.Deep.CutBlock
import Derived.BigQuiet
import Derived.Deep.QuietTactic
namespace Go.Proofs.YtmpfgkiljfoicaaDoor
open Go.RowKit
set_option linter.unusedVariables false
set_option linter.unusedSimpArgs false

def RetTrue (e : Ending) : Prop := e = .returned (.bool true)
structure Ar5 (w : World) (a0 a1 a2 a4 a5 : Option Addr) (ks fs ns ls us : List Int) : Prop where
  b4 : B4 w a0 a1 a2 a4 ks fs ns ls
  i5 : In .u32 w a5 us
theorem Ar5.kept {w w' : World} {a0 a1 a2 a4 a5 : Option Addr} {ks fs ns ls us : List Int} (h : Ar5 w a0 a1 a2 a4 a5 ks fs ns ls us) (hb : Below w.heap.size w w') : Ar5 w' a0 a1 a2 a4 a5 ks fs ns ls us := ⟨h.b4.kept hb, h.i5.kept hb⟩
theorem mm26 (w : World) : (Instr.makeMap 26 none).run Tryd.prog w = .ok (.map (some w.heap.size)) (w.alloc (.map #[] 0)) := by
  have h := run_underlying Tryd.underlying26 w
  simp [Instr.makeMap, h, Result.andThen, go_sem]
theorem mm41 (w : World) : (Instr.makeMap 41 none).run Tryd.prog w = .ok (.map (some w.heap.size)) (w.alloc (.map #[] 0)) := by
  have h := run_underlying Tryd.underlying41 w
  simp [Instr.makeMap, h, Result.andThen, go_sem]
/-- the map, filled from the first i uses -/
structure S1 (w wx : World) (M : Nat) (us : List Int) (i : Nat) : Prop where
  mu : ∃ D, Mu wx M i D ∧ Uses D (nth us) i
  bl : Below w.heap.size w wx
  le : w.heap.size ≤ M
set_option maxHeartbeats 16000000 in
set_option maxRecDepth 100000 in
theorem law_any (a0 a1 a2 a4 a5 : Option Addr) (l0 l1 l2 l4 l5 p0 p1 p2 p4 p5 : Nat) (sc st : Int) (ks fs ns ls us : List Int) (h0 : ks.length = l0) (h1 : fs.length = l1) (h2 : ns.length = l2) (h4 : ls.length = l4) (h5 : us.length = l5)
    (k8 : ∀ i, i < ks.length → 0 ≤ nth ks i ∧ nth ks i < 256) (f8 : ∀ i, 0 ≤ nth fs i ∧ nth fs i < 256) (n32 : ∀ i, 0 ≤ nth ns i ∧ nth ns i < 4294967296) (l32 : ∀ i, i < ls.length → 0 ≤ nth ls i) (hst : 0 ≤ st ∧ st < 4294967296) (hsc : 0 ≤ sc)
    (w : World) (hin : Ar5 w a0 a1 a2 a4 a5 ks fs ns ls us) (hv : Iv w) :
    Calls Tryd.prog 3 #[.slice a0 l0 p0, .slice a1 l1 p1, .slice a2 l2 p2, .int .u32 sc, .slice a4 l4 p4, .slice a5 l5 p5, .int .u32 st] w fun e w' => RetTrue e ∧ Below w.heap.size w w' := by
  obtain ⟨c, rfl⟩ : ∃ c : Nat, sc = (c : Int) := ⟨sc.toNat, by omega⟩
  clear hsc
  have HI := Lib.hid (And.intro hin (And.intro hv (And.intro k8 (And.intro f8 (And.intro n32 (And.intro l32 hst))))))
  have HZB := Lib.hid (zb_any a0 a1 a2 a4 a5 l0 l1 l2 l4 l5 p0 p1 p2 p4 p5 (c : Int) st w)
  clear hin hv k8 f8 n32 l32 hst
  go_enter Tryd.func3, Tryd.ntmps3
  go_upto_if 36 with (go_at_call 4; refine HZB.out.mono ?_; rintro e w2 ⟨⟨bb, rfl⟩, rfl⟩)
  cases bb
  · go_wp2_with fail
    go_ret
    exact ⟨rfl, Below.refl _ _⟩
  by_cases q0 : l0 ≤ 4096
  case neg =>
    go_wp2_with fail
    go_ret
    exact ⟨rfl, Below.refl _ _⟩
  by_cases q1 : l1 ≤ 4096
  case neg =>
    go_wp2_with fail
    go_ret
    exact ⟨rfl, Below.refl _ _⟩
  by_cases q2 : l2 ≤ 4096
  case neg =>
    go_wp2_with fail
    go_ret
    exact ⟨rfl, Below.refl _ _⟩
  by_cases q4 : l4 ≤ 4096
  case neg =>
    go_wp2_with fail
    go_ret
    exact ⟨rfl, Below.refl _ _⟩
  by_cases q5 : l5 ≤ 4096
  case neg =>
    go_wp2_with fail
    go_ret
    exact ⟨rfl, Below.refl _ _⟩
  by_cases qc : c ≤ 4096
  case neg =>
    go_wp2_with fail
    go_ret
    exact ⟨rfl, Below.refl _ _⟩
  by_cases qz : l0 = 0
  · subst qz
    go_wp2_with fail
    go_ret
    exact ⟨rfl, Below.refl _ _⟩
  go_upto_if 70 with fail
  go_cut [16] (fun x wc => x = .int .i64 ((min l5 l0 : Nat) : Int) ∧ w2 = wc)
  case first =>
    by_cases hmn : l5 ≤ l0
    · have e : min l5 l0 = l5 := by omega
      have HE := Lib.hid e
      clear e
      go_wp2_with fail
      go_meet
      exact ⟨by rw [HE.out], rfl⟩
    · have e : min l5 l0 = l0 := by omega
      have HE := Lib.hid e
      clear e
      go_wp2_with fail
      go_meet
      exact ⟨by rw [HE.out], rfl⟩
  case rest =>
    obtain ⟨rfl, rfl⟩ := hcut
    obtain ⟨k, hk⟩ : ∃ k, min l5 l0 = k := ⟨_, rfl⟩
    rw [hk]
    have hk1 : k ≤ l5 := by omega
    have hk2 : k ≤ l0 := by omega
    clear hk
    have hmk := mm26 w2
    go_upto_region 14 with fail
    clear hmk
    obtain ⟨M, hM⟩ : ∃ M, w2.heap.size = M := ⟨_, rfl⟩
    obtain ⟨wm, hwm⟩ : ∃ wm, w2.alloc (.map #[] 0) = wm := ⟨_, rfl⟩
    have HS0 : Hid (S1 w2 wm M us 0) := Lib.hid (by
      rw [← hwm, ← hM]
      exact ⟨⟨_, Mu.fresh (blk_new _ _), Uses.nil _⟩, (Below.refl _ _).alloc (Nat.le_refl _) _, Nat.le_refl _⟩)
    rw [hM, hwm]
    clear hM hwm
    go_wp2_with fail
    go_loopg [18] k (fun q a wx => ∃ i : Nat, a = .int .i64 (i : Int) ∧ i ≤ k ∧ k - i ≤ q ∧ Hid (S1 w2 wx M us i))
    case atStart => exact ⟨0, rfl, by omega, by omega, HS0⟩
    case round =>
      obtain ⟨i, rfl, hi, hki, HS⟩ := hrel
      obtain ⟨wz, rfl⟩ : ∃ wz : World, wz = wr := ⟨_, rfl⟩
      rcases (show k = i ∨ i < k by omega) with he | hlt
      · obtain rfl := he
        obtain ⟨m, hm⟩ : ∃ m, mkPm l0 c ks fs ns ls us st = m := ⟨_, rfl⟩
        have HM : Hid (mkPm l0 c ks fs ns ls us st = m ∧ m.Ok ∧ m.c = c ∧ m.n = l0 ∧ m.us = nth us ∧ m.st = st) := Lib.hid ⟨hm, by rw [← hm]; exact mkPm_ok l0 c ks fs ns ls us st q0 qc HI.out.2.2.2.2.2.1 HI.out.2.2.2.2.2.2, by rw [← hm]; rfl, by rw [← hm]; rfl, by rw [← hm]; rfl, by rw [← hm]; rfl⟩
        clear hm
        have HNW := Lib.hid (fun (rm : Option Nat) (T : Nat) (w : World) => (show Calls Tryd.prog 6 #[.agg #[.slice (some ⟨T, 0, none⟩) 1 1], .agg #[.int .u32 (c : Int), .int .u32 (c : Int), .int .u32 0, .int .u32 0], .map rm] w (NewPost rm w T c c 0 0) from new_any rm T c c 0 0 (by omega) (by omega) (by omega) (by omega) w))
        have HBa : Hid (Below w2.heap.size w2 wz) := Lib.hid HS.out.bl
        have HBDa := Lib.hid (build_any a0 a1 a2 a4 l0 l1 l2 l4 p0 p1 p2 p4 c ks fs ns ls h0 h1 h2 h4 HI.out.2.2.1 HI.out.2.2.2.1 HI.out.2.2.2.2.1 HI.out.2.2.2.2.2.1 (by omega) (by omega) wz (HI.out.1.kept HBa.out).b4)
        go_upto_region 19 with (first
          | (go_at_call 7; refine HBDa.out.mono ?_; rintro e waa ⟨Sa, Ta, rfl, hS, hST, hbt, hT, hb⟩; have HAa := Lib.hid (And.intro hS (And.intro hST (And.intro hbt (And.intro hT hb)))); clear hS hST hbt hT hb)
          | (go_at_call 8; refine (sc_any _ _ _).mono ?_; rintro e wba ⟨rfl, hgb⟩; have HGa := Lib.hid hgb; clear hgb; have hmk := mm41 wba)
          | (go_at_call 6; refine (HNW.out _ _ _).mono ?_; rintro e wc ⟨Ra, bma, g0a, g1a, g2a, g3a, rfl, hnew, hbc⟩; have HCa := Lib.hid (And.intro hnew hbc); clear hnew hbc))
        have HRa : Hid (∃ kc, Rn m wc wz.heap.size wc.heap.size Ra Ta Sa g0a g1a g2a g3a kc (.map (some wba.heap.size)) (.map (some bma)) ∧ Below wz.heap.size wz wc) := Lib.hid (by
          have hab : Below waa.heap.size waa wba := (Below.refl _ _).grown HGa.out (Nat.le_refl _) (fun k hk => by cases hk)
          have hac : Below waa.heap.size waa (wba.alloc (.map #[] 0)) := hab.alloc hab.size _
          have had : Below waa.heap.size waa wc := hac.trans (HCa.out.2.mono hac.size)
          obtain ⟨kc, k1, k2⟩ := Bt.sy (us := us) (st := st) HAa.out.2.2.1 HAa.out.2.2.2.1 HI.out.2.2.2.2.2.1
          rw [HM.out.1] at k1 k2
          have k3 := k1.kept had
          have hn := HCa.out.1
          have hb0 := HAa.out.2.2.2.2
          have e1 := HM.out.2.2.1
          have e2 := HM.out.2.2.2.1
          rw [← e1] at hn
          rw [← e2] at k3
          exact ⟨kc, Rn.of k3 k2 hn (Nat.le_trans hb0.size hac.size) HAa.out.1 (by have := HAa.out.1; have := HAa.out.2.1; omega), hb0.trans (had.mono hb0.size)⟩)
        clear HBDa HAa HGa HCa hmk
        have HBb : Hid (Below w2.heap.size w2 wc) := Lib.hid (by obtain ⟨kc, _, hb⟩ := HRa.out; exact HBa.out.trans (hb.mono HBa.out.size))
        have HBDb := Lib.hid (build_any a0 a1 a2 a4 l0 l1 l2 l4 p0 p1 p2 p4 c ks fs ns ls h0 h1 h2 h4 HI.out.2.2.1 HI.out.2.2.2.1 HI.out.2.2.2.2.1 HI.out.2.2.2.2.2.1 (by omega) (by omega) wc (HI.out.1.kept HBb.out).b4)
        go_upto_region 20 with (first
          | (go_at_call 7; refine HBDb.out.mono ?_; rintro e wab ⟨Sb, Tb, rfl, hS, hST, hbt, hT, hb⟩; have HAb := Lib.hid (And.intro hS (And.intro hST (And.intro hbt (And.intro hT hb)))); clear hS hST hbt hT hb)
          | (go_at_call 8; refine (sc_any _ _ _).mono ?_; rintro e wbb ⟨rfl, hgb⟩; have HGb := Lib.hid hgb; clear hgb; have hmk := mm41 wbb)
          | (go_at_call 6; refine (HNW.out _ _ _).mono ?_; rintro e wd ⟨Rb, bmb, g0b, g1b, g2b, g3b, rfl, hnew, hbc⟩; have HCb := Lib.hid (And.intro hnew hbc); clear hnew hbc))
        have HRb : Hid (∃ kc, Rn m wd wc.heap.size wd.heap.size Rb Tb Sb g0b g1b g2b g3b kc (.map (some wbb.heap.size)) (.map (some bmb)) ∧ Below wc.heap.size wc wd) := Lib.hid (by
          have hab : Below wab.heap.size wab wbb := (Below.refl _ _).grown HGb.out (Nat.le_refl _) (fun k hk => by cases hk)
          have hac : Below wab.heap.size wab (wbb.alloc (.map #[] 0)) := hab.alloc hab.size _
          have had : Below wab.heap.size wab wd := hac.trans (HCb.out.2.mono hac.size)
          obtain ⟨kc, k1, k2⟩ := Bt.sy (us := us) (st := st) HAb.out.2.2.1 HAb.out.2.2.2.1 HI.out.2.2.2.2.2.1
          rw [HM.out.1] at k1 k2
          have k3 := k1.kept had
          have hn := HCb.out.1
          have hb0 := HAb.out.2.2.2.2
          have e1 := HM.out.2.2.1
          have e2 := HM.out.2.2.2.1
          rw [← e1] at hn
          rw [← e2] at k3
          exact ⟨kc, Rn.of k3 k2 hn (Nat.le_trans hb0.size hac.size) HAb.out.1 (by have := HAb.out.1; have := HAb.out.2.1; omega), hb0.trans (had.mono hb0.size)⟩)
        clear HBDb HAb HGb HCb hmk
        obtain ⟨kca, hra, hba⟩ := HRa.out
        obtain ⟨kcb, hrb, hbb⟩ := HRb.out
        have hz1 : (zeroValue 43).run Tryd.prog wd = .ok (.slice none 0 0) wd := by kernel_rfl
        go_upto_region 21 with fail
        clear hz1
        obtain ⟨A, hA⟩ : ∃ A, wd.heap.size = A := ⟨_, rfl⟩
        obtain ⟨we, hwe⟩ : ∃ we, wd.alloc (.cells #[.slice none 0 0] 43) = we := ⟨_, rfl⟩
        have HE1 : Hid (Blk we A 43 #[.slice none 0 0] ∧ wd.grownBy we none ∧ wd.heap.size = A ∧ we.heap.size = A + 1) := Lib.hid (by
          rw [← hwe, ← hA]
          exact ⟨Blk.new _ _ _, gb_alloc (gb_refl _ _) _, rfl, by simp⟩)
        rw [hA, hwe]
        clear hA hwe
        have hz1 : (zeroValue 43).run Tryd.prog we = .ok (.slice none 0 0) we := by kernel_rfl
        go_upto_region 22 with fail
        clear hz1
        obtain ⟨Bk, hBk⟩ : ∃ Bk, we.heap.size = Bk := ⟨_, rfl⟩
        obtain ⟨wf, hwf⟩ : ∃ wf, we.alloc (.cells #[.slice none 0 0] 43) = wf := ⟨_, rfl⟩
        have HF1 : Hid (Blk wf Bk 43 #[.slice none 0 0] ∧ we.grownBy wf none ∧ we.heap.size = Bk ∧ wf.heap.size = Bk + 1) := Lib.hid (by
          rw [← hwf, ← hBk]
          exact ⟨Blk.new _ _ _, gb_alloc (gb_refl _ _) _, rfl, by simp⟩)
        rw [hBk, hwf]
        clear hBk hwf
        obtain ⟨X, hX⟩ : ∃ X, wf.heap.size = X := ⟨_, rfl⟩
        obtain ⟨wX, hwX⟩ : ∃ wX, wf.alloc (.cells #[.int .u32 st] 24) = wX := ⟨_, rfl⟩
        obtain ⟨D, hmu, hU⟩ := HS.out.mu
        obtain ⟨lo, hlo⟩ : ∃ lo, wz.heap.size = lo := ⟨_, rfl⟩
        have HX1 : Hid (lo ≤ wX.heap.size ∧ 0 < lo ∧
            St m wX lo Ra Ta Sa A X g0a g1a kca (.map (some wba.heap.size)) (.slice (some ⟨g2a, 0, none⟩) 0 0) (.slice (some ⟨g3a, 0, none⟩) 0 0) (.map (some bma)) (.slice none 0 0) [] ∧
            St m wX lo Rb Tb Sb Bk X g0b g1b kcb (.map (some wbb.heap.size)) (.slice (some ⟨g2b, 0, none⟩) 0 0) (.slice (some ⟨g3b, 0, none⟩) 0 0) (.map (some bmb)) (.slice none 0 0) [] ∧
            Mu wX M k D ∧ Below w2.heap.size w2 wX ∧ X < wX.heap.size ∧ w2.heap.size ≤ lo ∧
            (Ra < wc.heap.size ∧ g0a < wc.heap.size ∧ g1a < wc.heap.size ∧ Sa < wc.heap.size ∧ Ta < wc.heap.size) ∧ (wc.heap.size ≤ Sb ∧ wc.heap.size ≤ g0b ∧ wc.heap.size ≤ g1b ∧ wc.heap.size ≤ Rb ∧ wc.heap.size ≤ Tb) ∧ (Sb < A ∧ g0b < A ∧ g1b < A ∧ Rb < A ∧ Tb < A) ∧ A < Bk ∧ Bk < X ∧ wc.heap.size ≤ A) := Lib.hid (by
          have hdX : wd.grownBy wX none := by
            rw [← hwX]
            exact gb_alloc (gb_trans HE1.out.2.1 HF1.out.2.1) _
          have hdb : Below wd.heap.size wd wX := (Below.refl _ _).grown hdX (Nat.le_refl _) (fun k hk => by cases hk)
          have hcb : Below wc.heap.size wc wX := hbb.trans (hdb.mono hbb.size)
          have hzb : Below wz.heap.size wz wX := hba.trans (hcb.mono hba.size)
          have ha := hra.kept hcb
          have hb := hrb.kept hdb
          have hxb : Blk wX X 24 #[.int .u32 m.st] := by
            rw [← hwX, ← hX, HM.out.2.2.2.2.2]
            exact Blk.new _ _ _
          have hAX : Blk wX A 43 #[.slice none 0 0] := by
            rw [← hwX]
            exact (HE1.out.1.gb HF1.out.2.1 (by simp)).alloc _
          have hBX : Blk wX Bk 43 #[.slice none 0 0] := by
            rw [← hwX]
            exact HF1.out.1.alloc _
          have s1 := hba.size
          have s2 := hbb.size
          have s3 := HE1.out.2.2
          have s4 := HF1.out.2.2
          have h2 := HS.out.bl
          have hiv := (HI.out.2.1.below h2).below hzb
          have hlo0 : 0 < wz.heap.size := World.block_lt_of_cell? wz _ (HI.out.2.1.below h2).1
          have hsx : wX.heap.size = X + 1 := by rw [← hwX, ← hX]; simp
          have al := ha.lt
          have bl := hb.le
          have bt := hb.lt
          rw [hlo] at ha hlo0 s1
          have hb' : Rn m wX lo wd.heap.size Rb Tb Sb g0b g1b g2b g3b kcb (.map (some wbb.heap.size)) (.map (some bmb)) := ⟨hb.blk, hb.r0, hb.r1, hb.ne, hb.sy, hb.kc, by omega, hb.lt⟩
          refine ⟨by omega, hlo0, ha.st hlo0 hiv hAX (by omega) hxb, hb'.st hlo0 hiv hBX (by omega) hxb, hmu.below hzb, h2.trans (hzb.mono h2.size), by omega, by have := h2.size; omega, by omega, by omega, by omega, by omega, by omega, by omega⟩)
        have HUC := Lib.hid (uc_any m HM.out.2.1 lo Ra Ta Sa A X g0a g1a M k k kca (.map (some wba.heap.size)) (.slice (some ⟨g2a, 0, none⟩) 0 0) (.slice (some ⟨g3a, 0, none⟩) 0 0) (.map (some bma)) D (by rw [HM.out.2.2.2.1]; exact hk2) hra.kc (by rw [HM.out.2.2.2.2.1]; exact hU) wX HX1.out.1 HX1.out.2.2.1 HX1.out.2.2.2.2.1)
        have HKB := Lib.hid hrb.kc
        clear hra hba hrb hbb hmu hU HRa HRb HE1 HF1 HBa HBb HNW
        go_upto_region 23 with (go_at_call 9; refine HUC.out.mono ?_; rintro e w8 ⟨rfl, vA, LA, hlp⟩; have HLP := Lib.hid hlp; clear hlp)
        clear hwX
        obtain ⟨Xb, hXb⟩ : ∃ Xb, w8.heap.size = Xb := ⟨_, rfl⟩
        obtain ⟨w9, hw9⟩ : ∃ w9, w8.alloc (.cells #[.int .u32 st] 24) = w9 := ⟨_, rfl⟩
        obtain ⟨aA, capA, hvA, htpA, howA⟩ := HLP.out.st.tp
        have HLB : Hid (∃ lo W8 ga2 ga3 gb2 gb3 v0b vmb, LB m w2 w9 lo W8 Ra g0a g1a ga2 ga3 A Rb Tb Sb Bk Xb g0b g1b gb2 gb3 kcb v0b vmb aA capA LA 0 ∧ LA.Perm (List.range k)) := Lib.hid (by
          obtain ⟨c1, c2, c3, c4, c5, c6, c7, c8, c9, c10, c11, c12, c13, c14⟩ := HX1.out
          have hkp := HLP.out.kp
          have hsz := hkp.size
          have h89 : w8.grownBy w9 none := by rw [← hw9]; exact gb_alloc (gb_refl _ _) _
          have h98 : w8.heap.size ≤ w9.heap.size := h89.size
          have nl : ∀ b, b ≠ Sa → b ≠ g0a → b ≠ g1a → b ≠ A → ¬ L0 Sa g0a g1a A b := fun b q1 q2 q3 q4 hl => by
            rcases hl with e | e | e | e
            · exact q1 e
            · exact q2 e
            · exact q3 e
            · exact q4 e
          obtain ⟨ts, cs, z1, z2, z3, z4, z5, z6⟩ := c4.sy.out
          have hlow := c3.le
          have hB8 : St m w8 lo Rb Tb Sb Bk X g0b g1b kcb (.map (some wbb.heap.size)) (.slice (some ⟨g2b, 0, none⟩) 0 0) (.slice (some ⟨g3b, 0, none⟩) 0 0) (.map (some bmb)) (.slice none 0 0) [] :=
            ⟨hkp.blk c4.blk (nl _ (by omega) (by omega) (by omega) (by omega)), hkp.sl c4.s0 (nl _ (by omega) (by omega) (by omega) (by omega)), hkp.sl c4.s1 (nl _ (by omega) (by omega) (by omega) (by omega)), c4.ne,
              ⟨ts, cs, hkp.blk z1 (nl _ (by omega) (by omega) (by omega) (by omega)), z2, z3, z4, hkp.blk z5 (nl _ (by omega) (by omega) (by omega) (by omega)), z6⟩, HLP.out.st.iv, hkp.blk c4.var (nl _ (by omega) (by omega) (by omega) (by omega)), World.ownsRow_nil _ _ _ _, hkp.blk c4.x (nl _ (by omega) (by omega) (by omega) (by omega)), c4.le⟩
          have hB9 := hB8.grow h89
          have hxb : Blk w9 Xb 24 #[.int .u32 m.st] := by
            rw [← hw9, ← hXb, HM.out.2.2.2.2.2]
            exact Blk.new _ _ _
          have hB9' : St m w9 lo Rb Tb Sb Bk Xb g0b g1b kcb (.map (some wbb.heap.size)) (.slice (some ⟨g2b, 0, none⟩) 0 0) (.slice (some ⟨g3b, 0, none⟩) 0 0) (.map (some bmb)) (.slice none 0 0) [] :=
            ⟨hB9.blk, hB9.s0, hB9.s1, hB9.ne, hB9.sy, hB9.iv, hB9.var, hB9.own, hxb, hB9.le⟩
          have hA9 := HLP.out.st.grow h89
          have hbl : Below w2.heap.size w2 w9 := by
            have h1 : Below lo wX w8 := ⟨hkp.os, hkp.tape, hkp.output, hkp.size, fun i hi => hkp.block i (by omega) (nl i (by omega) (by have := c3.s0; obtain ⟨_, hh, _⟩ := this; omega) (by have := c3.s1; obtain ⟨_, hh, _⟩ := this; omega) (by omega))⟩
            exact (c6.trans (h1.mono c8)).grown h89 (Nat.le_trans c6.size hsz) (fun k hk => by cases hk)
          have lo0 : lo ≤ g0a ∧ lo ≤ g1a ∧ lo ≤ g0b ∧ lo ≤ g1b := by
            obtain ⟨_, k0, _⟩ := c3.s0
            obtain ⟨_, k1, _⟩ := c3.s1
            obtain ⟨_, k2, _⟩ := c4.s0
            obtain ⟨_, k3, _⟩ := c4.s1
            exact ⟨k0, k1, k2, k3⟩
          have hlb := c4.le
          refine ⟨lo, w9.heap.size, g2a, g3a, g2b, g3b, .map (some wbb.heap.size), .map (some bmb), ⟨⟨_, hB9', fun g hg => by cases hg⟩, hA9.r4, htpA.kept ((Below.refl _ _).grown h89 (Nat.le_refl _) (fun k hk => by cases hk)), hbl, ⟨Nat.le_refl _, c8⟩, by omega, fun g h0 e => ?_⟩, ?_⟩
          · obtain ⟨g', e', ho⟩ := howA h0
            rw [e'] at e
            have e2 : g' = g := by simpa using e
            subst e2
            have q := HLP.out.own g' ho
            obtain ⟨_, cur, hc⟩ := HLP.out.st.row ho
            have := hc.lt
            omega
          · exact HLP.out.es.perm (fun t ht => rfl))
        clear HX1 HUC HLP htpA howA hvA
        go_upto_region 24 with fail
        clear hXb hw9
        obtain ⟨lo', W8, ga2, ga3, gb2, gb3, v0b, vmb, hlb0, hperm⟩ := HLB.out
        have HLB0 := Lib.hid hlb0
        have HPM := Lib.hid hperm
        clear hlb0 hperm HLB
        go_wp2_with fail
        go_loopg [24] k (fun q a wx => ∃ i : Nat, a = .int .i64 (i : Int) ∧ i ≤ k ∧ k - i ≤ q ∧ Hid (LB m w2 wx lo' W8 Ra g0a g1a ga2 ga3 A Rb Tb Sb Bk Xb g0b g1b gb2 gb3 kcb v0b vmb aA capA LA i))
        case atStart => exact ⟨0, rfl, by omega, by omega, HLB0⟩
        case round =>
          obtain ⟨i, rfl, hi2, hki2, HL⟩ := hrel
          obtain ⟨wy, rfl⟩ : ∃ wy : World, wy = wr := ⟨_, rfl⟩
          rcases (show i = k ∨ i < k by omega) with he2 | hlt2
          · subst he2
            obtain ⟨vB, hstB, hvB⟩ := HL.out.st
            have hr4B := hstB.r4
            obtain ⟨aB, capB, hvB2, htpB, _⟩ := hstB.tp
            have hlenB : (m.es LA).length = (m.es (List.range i)).length := (m.es_perm HPM.out).length_eq
            have heiA := HL.out.tp.ei
            have heiB := htpB.ei
            have yA := HL.out.tp.var.cell 0
            have yB := htpB.var.cell 0
            have hyl := htpB.var.lt
            rw [← hlenB] at heiB yB
            have hKle : (m.es LA).length ≤ 65536 := by
              rw [hlenB]
              have := m.es_len (List.range i)
              simp at this
              omega
            have hpmA := enF_sg m (m.es LA)
            have hpmB := enF_sg m (m.es (List.range i))
            rw [← hlenB] at hpmB
            obtain ⟨fA, hfA⟩ : ∃ f, m.enF (m.es LA) = f := ⟨_, rfl⟩
            obtain ⟨fB, hfB⟩ : ∃ f, m.enF (m.es (List.range i)) = f := ⟨_, rfl⟩
            obtain ⟨K, hK⟩ : ∃ K, (m.es LA).length = K := ⟨_, rfl⟩
            rw [hfA, hK] at heiA hpmA
            rw [hfB, hK] at heiB hpmB
            rw [hK] at yA yB hKle
            have hperm : (sg fA 0 K).Perm (sg fB 0 K) := by
              rw [hpmA, hpmB]
              exact (m.es_perm HPM.out).map _
            have HSA := Lib.hid (sort_any aA K capA fA hKle wy heiA)
            have HSB := Lib.hid (fun (W : World) (hW : Below wy.heap.size wy W) => sort_any aB K capB fB hKle W (fun h0 => by
              obtain ⟨g, e, hg, hc⟩ := heiB h0
              exact ⟨g, e, Nat.lt_of_lt_of_le hg hW.size, fun i hi => ⟨(hW.cell (p := ⟨g, i * 4, none⟩) hg).trans (hc i hi).1, (hW.cell (p := ⟨g, i * 4 + 1, none⟩) hg).trans (hc i hi).2.1, (hW.cell (p := ⟨g, i * 4 + 2, none⟩) hg).trans (hc i hi).2.2.1, (hW.cell (p := ⟨g, i * 4 + 3, none⟩) hg).trans (hc i hi).2.2.2⟩⟩))
            have HQ := Lib.hid (And.intro hr4B (And.intro hperm (And.intro hyl yB)))
            clear hstB hvB hr4B htpB hlenB heiA heiB hpmA hpmB hfA hfB hK hvB2 hperm
            go_upto_region 30 with fail
            go_upto_region 31 with (go_at_call 11; refine HSA.out.mono ?_; rintro e wp ⟨GA, FA, rfl, hEr, hP, hAs, hb⟩; have HA := Lib.hid (And.intro hEr (And.intro hP (And.intro hAs hb))); clear hEr hP hAs hb)
            have yB2 : wp.cell? ⟨Bk, 0, none⟩ = some (.slice aB K capB) := (HA.out.2.2.2.cell (p := ⟨Bk, 0, none⟩) HQ.out.2.2.1).trans HQ.out.2.2.2
            clear yA yB hyl
            go_upto_region 32 with (go_at_call 11; refine (HSB.out _ HA.out.2.2.2).mono ?_; rintro e wq ⟨GB, FB, rfl, hEr, hP, hAs, hb⟩; have HB := Lib.hid (And.intro hEr (And.intro hP (And.intro hAs hb))); clear hEr hP hAs hb)
            have HFIN : Hid (Er wq GA K FA ∧ Er wq GB K FB ∧ (∀ x, x < K → FA x = FB x) ∧ R4 m wq lo' Ra g0a g1a ga2 ga3 LA ∧ R4 m wq lo' Rb g0b g1b gb2 gb3 (List.range i) ∧ Below w2.heap.size w2 wq) := Lib.hid (by
              have hb1 := HA.out.2.2.2
              have hb2 := HB.out.2.2.2
              have hb12 : Below wy.heap.size wy wq := hb1.trans (hb2.mono hb1.size)
              exact ⟨HA.out.1.kept hb2, HB.out.1, fun x hx => sorted_same (HA.out.2.1.trans (HQ.out.2.1.trans HB.out.2.1.symm)) HA.out.2.2.1 HB.out.2.2.1 hx, HL.out.r4.kept hb12, HQ.out.1.kept hb12, HL.out.bl.trans (hb12.mono HL.out.bl.size)⟩)
            clear yB2 HSA HSB HA HB HQ
            go_wp2_with fail
            go_loopg [27] K (fun q a wx => ∃ t : Nat, a = .int .i64 (t : Int) ∧ t ≤ K ∧ K - t ≤ q ∧ Hid (wq.grownBy wx none))
            case atStart => exact ⟨0, rfl, by omega, by omega, Lib.hid (gb_refl _ _)⟩
            case round =>
              obtain ⟨t, rfl, ht, hkt, HG⟩ := hrel
              obtain ⟨wv, rfl⟩ : ∃ wv : World, wv = wr := ⟨_, rfl⟩
              have hbv : Below wq.heap.size wq wv := (Below.refl _ _).grown HG.out (Nat.le_refl _) (fun k hk => by cases hk)
              rcases (show t = K ∨ t < K by omega) with he3 | hlt3
              · subst he3
                have HSM := Lib.hid (same_any m wv (by rw [HM.out.2.2.1]; omega) lo' Ra g0a g1a ga2 ga3 Rb g0b g1b gb2 gb3 LA (List.range i) (HFIN.out.2.2.2.1.kept hbv) (HFIN.out.2.2.2.2.1.kept hbv) HPM.out)
                have HBF := Lib.hid (HFIN.out.2.2.2.2.2.trans (hbv.mono HFIN.out.2.2.2.2.2.size))
                clear hbv
                go_wp2_with (go_at_call 12; refine HSM.out.mono ?_; rintro e wz2 ⟨rfl, he⟩; obtain rfl := he.symm)
                go_ret
                exact ⟨rfl, HBF.out⟩
              · obtain ⟨q0, q1, q2, q3⟩ := (HFIN.out.1.kept hbv).cell hlt3
                obtain ⟨r0, r1, r2, r3⟩ := (HFIN.out.2.1.kept hbv).cell hlt3
                rw [← HFIN.out.2.2.1 t hlt3] at r0 r1 r2 r3
                obtain ⟨v, hv⟩ : ∃ v, FA t = v := ⟨_, rfl⟩
                rw [hv] at q0 q1 q2 q3 r0 r1 r2 r3
                clear hv hbv
                go_wp2_with fail
                go_quiet (fail)
                go_wp2_with fail
                go_roundg (gk - 1)
                case measure => omega
                case rel => exact ⟨t + 1, by go_num, by omega, by omega, Lib.hid (gb_trans HG.out (gb_drewN _ _))⟩
          · obtain ⟨vB, hstB, hvB⟩ := HL.out.st
            have HVB := Lib.hid (And.intro hstB hvB)
            clear hstB hvB
            obtain ⟨x5, y5, rfl, hl5, v5⟩ := (HI.out.1.i5.kept HL.out.bl).at (i := i) (by omega)
            obtain ⟨z, hz⟩ : ∃ z, nth us i = z := ⟨_, rfl⟩
            rw [hz] at v5
            have hmz : m.us i = z := by rw [HM.out.2.2.2.2.1]; exact hz
            have HRF := Lib.hid (fun (w : World) => ref_any i (by omega) w)
            have HAC := Lib.hid (fun (W : World) (hW : wy.grownBy W none) => ac_any m HM.out.2.1 lo' Rb Tb Sb Bk Xb g0b g1b kcb v0b (.slice (some ⟨gb2, 0, none⟩) 0 0) (.slice (some ⟨gb3, 0, none⟩) 0 0) vmb vB (List.range i) (by simp; omega) HKB.out i (by rw [HM.out.2.2.2.1]; omega) z hmz W (by have := HL.out.le; have := HL.out.far; have := hW.size; omega) (HVB.out.1.grow hW))
            have HZ := Lib.hid (And.intro hz hmz)
            clear hz hmz
            have hil : (i : Int) < (l5 : Int) := by omega
            go_upto_region 27 with fail
            have v5' : wy.drew.cell? ⟨x5, y5 + i, none⟩ = some (.int .u32 z) := v5
            have HV5 := Lib.hid (And.intro v5 hl5)
            clear v5 hl5
            go_region_held3 (fun w' => w'.cell? ⟨x5, y5 + i, none⟩ = some (.int .u32 z)) (first | (go_keep; done) | exact HK6.out | exact HK5.out)
              (first
                | (go_at_call 5; refine (HRF.out _).mono ?_; rintro e w5 ⟨rfl, hg5⟩; have H5 := Lib.hid (gb_und hg5); have HK5 : Hid (w5.cell? ⟨x5, y5 + i, none⟩ = some (.int .u32 z)) := Lib.hid ((World.cell?_of_block (w := wy) (H5.out.block x5 (World.block_lt_of_cell? wy _ HV5.out.1) (by simp))).trans HV5.out.1); clear hg5)
                | (go_at_call 10; refine (HAC.out _ H5.out).mono ?_; rintro e w6 hac; obtain ⟨he6, hbl6, hlb6⟩ := LB.step (HL.out.grow H5.out) HVB.out.2 hac; obtain rfl := he6; have H6 := Lib.hid hlb6; have HK6 : Hid (w6.cell? ⟨x5, y5 + i, none⟩ = some (.int .u32 z)) := Lib.hid ((hbl6.cell (p := ⟨x5, y5 + i, none⟩) (by obtain ⟨xx, yy, ee, hh, _⟩ := HI.out.1.i5.at (i := i) (by omega); cases ee; exact hh)).trans HK5.out); clear hac hbl6 hlb6))
            go_wp2_with fail
            go_roundg (gk - 1)
            case measure => omega
            case rel => exact ⟨i + 1, by go_num, by omega, by omega, H6⟩
      · obtain ⟨x5, y5, rfl, hl5, v5⟩ := (HI.out.1.i5.kept HS.out.bl).at (i := i) (by omega)
        obtain ⟨z, hz⟩ : ∃ z, nth us i = z := ⟨_, rfl⟩
        rw [hz] at v5
        obtain ⟨D, hmu, hU⟩ := HS.out.mu
        have HX := Lib.hid (And.intro hz (And.intro hmu hU))
        clear hz hmu hU
        have HRF := Lib.hid (fun (w : World) => ref_any i (by omega) w)
        have hil : (i : Int) < (l5 : Int) := by omega
        go_upto_region 17 with fail
        have v5' : wz.drew.cell? ⟨x5, y5 + i, none⟩ = some (.int .u32 z) := v5
        have HV5 := Lib.hid v5
        clear v5
        go_region_with (go_at_call 5; refine (HRF.out _).mono ?_; rintro e w5 ⟨rfl, hg5⟩; have n5 : w5.cell? ⟨x5, y5 + i, none⟩ = some (.int .u32 z) := (World.cell?_of_block (w := wz) ((gb_und hg5).block x5 (World.block_lt_of_cell? wz _ HV5.out) (by simp))).trans HV5.out; obtain ⟨w6, hup, hmu6, hg6⟩ := Mu.put (c := z) (t := i) (HX.out.2.1.kept (gb_und hg5) (by simp)) (by unfold maxLen; omega) (by omega); have H6 := Lib.hid (And.intro (gb_und hg5) (And.intro hmu6 hg6)); clear hg5 hmu6 hg6)
        all_goals
          have HST : Hid (S1 w2 w6 M us (i + 1)) := Lib.hid ⟨⟨_, H6.out.2.1, by have h := HX.out.2.2.put (k := i) (by omega); rw [HX.out.1] at h; exact h⟩, (HS.out.bl.grown H6.out.1 HS.out.bl.size (fun k hk => by cases hk)).grown H6.out.2.2 (Nat.le_trans HS.out.bl.size H6.out.1.size) (fun k hk => by cases hk; exact HS.out.le), HS.out.le⟩
          clear hup n5
          go_wp2_with fail
          go_roundg (gk - 1)
          case measure => omega
          case rel => exact ⟨i + 1, by go_num, by omega, by omega, HST⟩
end Go.Proofs.YtmpfgkiljfoicaaDoor
