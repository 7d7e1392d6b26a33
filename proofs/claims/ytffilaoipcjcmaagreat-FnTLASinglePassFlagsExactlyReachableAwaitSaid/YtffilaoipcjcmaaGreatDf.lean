/-
  recursivelyValidateTLA: a marking, depth first, walked. No statement of the seat is proved here.
-/
import Derived.Test.YtffilaoipcjcmaaGreatTs
import Derived.Test.YtffilaoipcjcmaaGreatBz
namespace Go.Proofs.YtffilaoipcjcmaaGreat
open Go.RowKit
set_option linter.unusedVariables false
set_option linter.unusedSimpArgs false

theorem ta159 (p : Nat) (w : World) : (Instr.typeAssert (.iface 159 (.pointer (some ⟨p, 0, none⟩))) 73 159 true).run Tryz.prog w = .ok (.tuple #[.pointer (some ⟨p, 0, none⟩), .bool true]) w := by kernel_rfl
def z66 : Array Value := #[.int .u32 0, .int .u32 0, .int .u32 0, .int .u32 0]
def c66 (pa de ps re : Int) : Array Value := #[.int .u32 pa, .int .u32 de, .int .u32 ps, .int .u32 re]
theorem alloc66 (w : World) : (Instr.alloc 66 true (.tuple #[])).run Tryz.prog w = .ok (.pointer (some ⟨w.heap.size, 0, none⟩)) (w.alloc (.cells z66 66)) := by kernel_rfl
theorem info66 (pa de ps re : Int) : (Tryz.prog.info? 66).map (·.size) = some (c66 pa de ps re).size := by kernel_rfl
theorem one66 (pa de ps re : Int) : (c66 pa de ps re).all (·.oneCell') = true := by simp [c66, Value.oneCell']
theorem below_of {w w' : World} (h : w.grownBy w' none) : Below w.heap.size w w' := ⟨h.os, h.tape, h.output, h.size, fun i hi => h.block i hi (by simp)⟩
theorem _root_.Go.World.grownBy.cell_of_none {w w' : World} (h : w.grownBy w' none) {p : Addr} {v : Value} (hc : w.cell? p = some v) : w'.cell? p = some v := by
  have hl := World.block_lt_of_cell? w p hc
  rw [← hc]
  exact World.cell?_of_block (h.block p.block hl (by simp))
theorem gb_drewN (w : World) (d : Nat) : w.grownBy (w.drewN d) none := ⟨rfl, rfl, rfl, Nat.le_refl _, fun _ _ _ => rfl⟩
theorem Blk.ext {F C : Nat} {w w' : World} {b : Nat} {t : TypeId} {cs : Array Value} (h : Blk w b t cs) (he : Ext F C w w') (h1 : b ≠ F) (h2 : b ≠ C) : Blk w' b t cs := (he.block b h.lt h1 h2).trans h
/-- what a call hands back: the check of file a -/
def Ret (p : Int) (a : Nat) (d : Nat → Bool) (Pa De Re : Nat → Int) (e : Ending) : Prop := e = .returned (.agg (c66 (4294967295 - Pa a) (4294967295 - De a) (if d a = true then p else 0) (Re a)))
set_option maxHeartbeats 4000000 in
set_option maxRecDepth 100000 in
theorem dfs_still (S F C : Nat) (P : Nat → Nat) (A : Nat → Option Addr) (K : Nat → Nat) (g : Gx) (p : Int) (d : Nat → Bool) (Pa De Re : Nat → Int) (dc : Bool) (a : Nat) (ha : a < g.ts.length) (hst : prs g a = false ∨ (if d a = true then p else 0) = p) (w : World) (hs : St w S F C P A K g p d Pa De Re dc) :
    Calls Tryz.prog 19 #[.pointer (some ⟨S, 0, none⟩), .int .u32 (a : Int), .int .u32 p, .pointer (some ⟨C, 0, none⟩)] w fun e w' => Ret p a d Pa De Re e ∧ w.grownBy w' none := by
  have hcl := hs.cl ha
  have c1 := hcl.s
  have l1 := hcl.ls
  have c2 := hcl.ok
  have c3 := hcl.pa
  have c4 := hcl.de
  have c5 := hcl.ps
  have c6 := hcl.re
  have l2 := hcl.lf
  have HS := Lib.hid hs
  clear hcl hs
  obtain ⟨n, hn⟩ : ∃ n, g.ts.length = n := ⟨_, rfl⟩
  rw [hn] at c1
  have ha' : a < n := by omega
  unfold Ret
  obtain ⟨x, hx⟩ : ∃ x, (if d a = true then p else 0) = x := ⟨_, rfl⟩
  obtain ⟨y, hy⟩ : ∃ y, 4294967295 - Pa a = y := ⟨_, rfl⟩
  obtain ⟨z, hz⟩ : ∃ z, 4294967295 - De a = z := ⟨_, rfl⟩
  obtain ⟨r, hr⟩ : ∃ r, Re a = r := ⟨_, rfl⟩
  rw [hx] at c5 hst ⊢
  rw [hy] at c3 ⊢
  rw [hz] at c4 ⊢
  rw [hr] at c6 ⊢
  obtain ⟨B, hB⟩ : ∃ B, w.heap.size = B := ⟨_, rfl⟩
  have HB := Lib.hid hB
  have hcase : ∃ b, prs g a = b ∧ (b = false ∨ x = p) := ⟨_, rfl, hst⟩
  obtain ⟨b, hb, hbx⟩ := hcase
  rw [hb] at c2
  clear hx hy hz hr hn ha hb hst
  have hb0 := Blk.new w 66 z66
  rw [hB] at hb0
  have hg0 : w.grownBy (w.alloc (.cells z66 66)) none := gb_alloc (gb_refl _ _) _
  have H0 := Lib.hid (And.intro hb0 hg0)
  have hbe := below_of hg0
  have c1 := (hbe.cell (p := ⟨S, 11, none⟩) l1).trans c1
  have c2 := (hbe.cell (p := ⟨F, a * 27 + 26, none⟩) l2).trans c2
  have c3 := (hbe.cell (p := ⟨F, a * 27 + 22, none⟩) l2).trans c3
  have c4 := (hbe.cell (p := ⟨F, a * 27 + 23, none⟩) l2).trans c4
  have c5 := (hbe.cell (p := ⟨F, a * 27 + 24, none⟩) l2).trans c5
  have c6 := (hbe.cell (p := ⟨F, a * 27 + 25, none⟩) l2).trans c6
  have l1 : S < (w.alloc (.cells z66 66)).heap.size := Nat.lt_of_lt_of_le l1 hg0.size
  have l2 : F < (w.alloc (.cells z66 66)).heap.size := Nat.lt_of_lt_of_le l2 hg0.size
  clear hbe hb0 hg0
  go_enter Tryz.func19, Tryz.ntmps19
  go_upto_region 1 with (refine wpList_alloc_zero rfl 66 rfl z66 alloc66 ?_)
  try rw [hB]
  clear hB
  generalize w.alloc (.cells z66 66) = w1 at *
  rcases hbx with hbx | hbx
  all_goals
    subst hbx
    go_wp2_with (refine wpList_store_blk rfl 66 (.tmp 8) (.tmp 154) rfl B z66 #[.int .u32 y, .int .u32 z, .int .u32 _, .int .u32 r] H0.out.1 rfl rfl rfl (info66 ..) (one66 ..) ?_; intro w2 hb2 hg2; have H2 := Lib.hid (And.intro hb2 hg2); clear hb2 hg2)
  all_goals
    refine bodyPost_ret (v := .agg (c66 y z _ r)) (results_cell_row (d := _) Tryz.results19 _ _ B 66 _ (0, 0) (by rfl) H2.out.1 Tryz.underlying66 rfl (info66 ..)) rfl ⟨rfl, gb_new (gb_trans (gb_none H0.out.2) H2.out.2) (by rw [HB.out]; exact Nat.le_refl _)⟩
/-- what a call on file a leaves -/
def Dfs (S F C : Nat) (P : Nat → Nat) (A : Nat → Option Addr) (K : Nat → Nat) (g : Gx) (p : Int) (a : Nat) (d : Nat → Bool) (w : World) (e : Ending) (w' : World) : Prop :=
  ∃ d' Pa' De' Re' dc', Ret p a d' Pa' De' Re' e ∧ St w' S F C P A K g p d' Pa' De' Re' dc' ∧ Mkc g d a d' ∧ TI (tlv g) d' Pa' De' Re' dc' ∧ Ext F C w w'
/-- the state ahead of the imports -/
structure Ls (S F C : Nat) (P : Nat → Nat) (A : Nat → Option Addr) (K : Nat → Nat) (g : Gx) (p : Int) (a B : Nat) (d' : Nat → Bool) (w wx : World) (Pa' De' Re' : Nat → Int) (dc' : Bool) : Prop where
  st : St wx S F C P A K g p d' Pa' De' Re' dc'
  ti : TI (tlv g) d' Pa' De' Re' dc'
  ex : Ext F C w wx
  rb : Blk wx B 66 z66
theorem Ls.gb {S F C : Nat} {P : Nat → Nat} {A : Nat → Option Addr} {K : Nat → Nat} {g : Gx} {p : Int} {a B : Nat} {d' : Nat → Bool} {w wx wy : World} {Pa' De' Re' : Nat → Int} {dc' : Bool} (h : Ls S F C P A K g p a B d' w wx Pa' De' Re' dc') (hg : wx.grownBy wy none) : Ls S F C P A K g p a B d' w wy Pa' De' Re' dc' :=
  ⟨h.st.gb hg, h.ti, h.ex.trans (Ext.of_gb hg), h.rb.gb hg (by simp)⟩
/-- the marks behind the first j imports of a -/
def Lp (S F C : Nat) (P : Nat → Nat) (A : Nat → Option Addr) (K : Nat → Nat) (g : Gx) (p : Int) (a B j : Nat) (d1 : Nat → Bool) (w wx : World) : Prop :=
  ∃ d' Pa' De' Re' dc', Ls S F C P A K g p a B d' w wx Pa' De' Re' dc' ∧ Mks (EE g) Z0 d1 (csf g ((esv g a (mE g)).take j)) d'
set_option maxHeartbeats 8000000 in
set_option maxRecDepth 100000 in
theorem dfs_step (S F C : Nat) (P : Nat → Nat) (A : Nat → Option Addr) (K : Nat → Nat) (g : Gx) (hok : OkG g) (p : Int) (hp0 : p ≠ 0) (k : Nat)
    (ih : ∀ (a : Nat) (d : Nat → Bool) (Pa De Re : Nat → Int) (dc : Bool) (w : World), a < g.ts.length → cnt d g.ts.length ≤ k → St w S F C P A K g p d Pa De Re dc → TI (tlv g) d Pa De Re dc → Calls Tryz.prog 19 #[.pointer (some ⟨S, 0, none⟩), .int .u32 (a : Int), .int .u32 p, .pointer (some ⟨C, 0, none⟩)] w (Dfs S F C P A K g p a d w))
    (a : Nat) (ha : a < g.ts.length) (d : Nat → Bool) (Pa De Re : Nat → Int) (dc : Bool) (hpr : prs g a = true) (hd : d a = false) (hk : cnt d g.ts.length ≤ k + 1) (w : World) (hs : St w S F C P A K g p d Pa De Re dc) (hti : TI (tlv g) d Pa De Re dc) :
    Calls Tryz.prog 19 #[.pointer (some ⟨S, 0, none⟩), .int .u32 (a : Int), .int .u32 p, .pointer (some ⟨C, 0, none⟩)] w (Dfs S F C P A K g p a d w) := by
  have hcl := hs.cl ha
  have HLF := Lib.hid (And.intro hcl.lf hcl.lc)
  obtain ⟨B, hB⟩ : ∃ B, w.heap.size = B := ⟨_, rfl⟩
  have hb0 := Blk.new w 66 z66
  rw [hB] at hb0
  have hg0 : w.grownBy (w.alloc (.cells z66 66)) none := gb_alloc (gb_refl _ _) _
  have H0 : Hid (Ls S F C P A K g p a B d w (w.alloc (.cells z66 66)) Pa De Re dc ∧ F ≠ B ∧ C ≠ B) := Lib.hid ⟨⟨hs.gb hg0, hti, Ext.of_gb hg0, hb0⟩, by have := hcl.lf; omega, by have := hcl.lc; omega⟩
  clear hb0 hg0 hcl hs
  have HH : Hid (w.heap.size = B ∧ d a = false ∧ cnt d g.ts.length ≤ k + 1 ∧ a < g.ts.length ∧ prs g a = true) := Lib.hid ⟨hB, hd, hk, ha, hpr⟩
  have HIH := Lib.hid ih
  have HOK := Lib.hid hok
  clear hd hk ha ih hok hpr hti
  go_enter Tryz.func19, Tryz.ntmps19
  go_upto_region 1 with (refine wpList_alloc_zero rfl 66 rfl z66 alloc66 ?_)
  try rw [hB]
  clear hB
  generalize w.alloc (.cells z66 66) = w1 at H0 ⊢
  obtain ⟨n, hn⟩ : ∃ n, g.ts.length = n := ⟨_, rfl⟩
  have HN := Lib.hid hn
  have ha' : a < n := by rw [← hn]; exact HH.out.2.2.2.1
  have hcl := H0.out.1.st.cl HH.out.2.2.2.1
  have c1 := hcl.s
  rw [hn] at c1
  have l1 := hcl.ls
  have c2 := hcl.ok
  rw [HH.out.2.2.2.2] at c2
  have c5 := hcl.ps
  rw [HH.out.2.1, if_neg (by simp)] at c5
  have l2 := hcl.lf
  have f24 := hcl.ff (a * 27 + 24)
  have e1 : decide ((0 : Int) = p) = false := by simp; omega
  have e2 : ((0 : Int) == p) = false := by simp; omega
  clear hcl hn
  have hne : ¬ (0 : Int) = p := by omega
  go_upto_region 4 with fail
  have H1 : Hid (Ls S F C P A K g p a B d w w1 Pa De Re dc) := Lib.hid H0.out.1
  have H2 : Hid (St (w1.setCell ⟨F, a * 27 + 24, none⟩ (.int .u32 p)) S F C P A K g p (fun v => d v || v == a) Pa De Re dc ∧ Ext F C w (w1.setCell ⟨F, a * 27 + 24, none⟩ (.int .u32 p)) ∧ Blk (w1.setCell ⟨F, a * 27 + 24, none⟩ (.int .u32 p)) B 66 z66) := Lib.hid ⟨H1.out.st.mark HH.out.2.2.2.1, H1.out.ex.trans (Ext.setF ..), H1.out.rb.ext (Ext.setF (C := C) ..) (Ne.symm H0.out.2.1) (Ne.symm H0.out.2.2)⟩
  clear c1 l1 c2 c5 l2 f24 e1 e2 hne H1
  generalize w1.setCell ⟨F, a * 27 + 24, none⟩ (.int .u32 p) = w2 at H2 ⊢
  have HBF : Hid (B ≠ F ∧ B ≠ C) := Lib.hid ⟨Ne.symm H0.out.2.1, Ne.symm H0.out.2.2⟩
  have hti : Hid (TI (tlv g) d Pa De Re dc) := Lib.hid H0.out.1.ti
  clear H0
  obtain ⟨t, ht⟩ : ∃ t, tlv g a = t := ⟨_, rfl⟩
  have hcl := H2.out.1.cl HH.out.2.2.2.1
  have c1 := hcl.rp HH.out.2.2.2.2
  have c2 := hcl.tl HH.out.2.2.2.2
  have c3 := hcl.pa
  rw [(hti.out.e a HH.out.2.1).1] at c3
  have l1 := hcl.lf
  have l2 := hcl.lp HH.out.2.2.2.2
  have hta := fun w => ta159 (P a) w
  have hn1 : ¬ (4294967295 : Int) = (a : Int) := by have := HOK.out.n4; have := HH.out.2.2.2.1; omega
  have HN1 := Lib.hid hn1
  have hn2 : ((4294967295 : Int) == (a : Int)) = false := by simp [hn1]
  have hn3 : decide ((4294967295 : Int) = (a : Int)) = false := by simp [hn1]
  clear hcl
  unfold tlen at c2
  rw [ht] at c2
  have HT := Lib.hid ht
  clear ht
  go_upto_region 6 with fail
  clear hta c1
  have HG := Lib.hid (geti_any 4294967295 (by omega) (by omega))
  go_cut [66] (fun v wc => v = .bool t ∧ Hid (w2.grownBy wc none))
  case first =>
    cases t
    · rw [if_neg (by simp)] at c2
      go_wp2_with fail
      go_meet
      exact ⟨rfl, Lib.hid (gb_refl _ _)⟩
    · rw [if_pos rfl] at c2
      go_wp2_with (go_at_call 21; refine (HG.out _).mono ?_; rintro e w3 ⟨rfl, hg⟩; have H3 := Lib.hid hg; clear hg)
      go_meet
      exact ⟨by have := HN1.out; simp [this], H3⟩
  case rest =>
    obtain ⟨rfl, HW⟩ := hcut
    obtain ⟨w3, rfl⟩ : ∃ w3 : World, w3 = wc := ⟨_, rfl⟩
    have H3 : Hid (Ls S F C P A K g p a B d w w3 Pa De Re dc → True) := Lib.hid (fun _ => trivial)
    clear c2 c3 hn1 hn2 hn3 l1 l2 HG H3
    have HS3 : Hid (St w3 S F C P A K g p (fun v => d v || v == a) Pa De Re dc ∧ Ext F C w w3 ∧ Blk w3 B 66 z66) := Lib.hid ⟨H2.out.1.gb HW.out, H2.out.2.1.trans (Ext.of_gb HW.out), H2.out.2.2.gb HW.out (by simp)⟩
    clear HW H2
    go_upto_if 66 with fail
    go_cut [] (fun wc => Hid (∃ Pa' De' Re' dc', Ls S F C P A K g p a B (fun v => d v || v == a) w wc Pa' De' Re' dc'))
    case first =>
      cases t
      · go_wp2_with fail
        go_meet
        exact Lib.hid ⟨_, _, _, _, HS3.out.1, hti.out.mark0 HT.out, HS3.out.2.1, HS3.out.2.2⟩
      · have HM := Lib.hid (mk_any (a : Int) (by omega) (by have := HOK.out.n4; have := HH.out.2.2.2.1; omega))
        go_upto_region 8 with (go_at_call 16; refine (HM.out _).mono ?_; rintro e w4 ⟨rfl, hg⟩; have H4 := Lib.hid hg; have hcl := (HS3.out.1.gb hg).cl HH.out.2.2.2.1; have k22 := hcl.pa; have f22 := hcl.ff (a * 27 + 22); have lf := hcl.lf; clear hcl hg)
        clear k22 f22 lf
        have HS5 : Hid (St (w4.setCell ⟨F, a * 27 + 22, none⟩ (.int .u32 (4294967295 - (a : Int)))) S F C P A K g p (fun v => d v || v == a) (put Pa a (a : Int)) De Re dc ∧ Ext F C w (w4.setCell ⟨F, a * 27 + 22, none⟩ (.int .u32 (4294967295 - (a : Int)))) ∧ Blk (w4.setCell ⟨F, a * 27 + 22, none⟩ (.int .u32 (4294967295 - (a : Int)))) B 66 z66) := Lib.hid ⟨(HS3.out.1.gb H4.out).par HH.out.2.2.2.1 _, (HS3.out.2.1.trans (Ext.of_gb H4.out)).trans (Ext.setF ..), ((HS3.out.2.2.gb H4.out (by simp))).ext (Ext.setF (C := C) ..) HBF.out.1 HBF.out.2⟩
        clear H4
        generalize w4.setCell ⟨F, a * 27 + 22, none⟩ (.int .u32 (4294967295 - (a : Int))) = w5 at HS5 ⊢
        have HM1 := Lib.hid (mk_any 1 (by omega) (by omega))
        go_upto_region 9 with (go_at_call 16; refine (HM1.out _).mono ?_; rintro e w6 ⟨rfl, hg⟩; have H6 := Lib.hid hg; have hcl := (HS5.out.1.gb hg).cl HH.out.2.2.2.1; have k23 := hcl.de; have f23 := hcl.ff (a * 27 + 23); have lf := hcl.lf; clear hcl hg)
        clear k23 f23 lf
        have HS7 : Hid (St (w6.setCell ⟨F, a * 27 + 23, none⟩ (.int .u32 4294967294)) S F C P A K g p (fun v => d v || v == a) (put Pa a (a : Int)) (put De a 1) Re dc ∧ Ext F C w (w6.setCell ⟨F, a * 27 + 23, none⟩ (.int .u32 4294967294)) ∧ Blk (w6.setCell ⟨F, a * 27 + 23, none⟩ (.int .u32 4294967294)) B 66 z66) := Lib.hid ⟨(HS5.out.1.gb H6.out).dep HH.out.2.2.2.1 1, (HS5.out.2.1.trans (Ext.of_gb H6.out)).trans (Ext.setF ..), ((HS5.out.2.2.gb H6.out (by simp))).ext (Ext.setF (C := C) ..) HBF.out.1 HBF.out.2⟩
        clear H6
        generalize w6.setCell ⟨F, a * 27 + 23, none⟩ (.int .u32 4294967294) = w7 at HS7 ⊢
        have hcl := HS7.out.1.cl HH.out.2.2.2.1
        have kc := hcl.c
        have fc := hcl.fc
        have lc := hcl.lc
        clear hcl
        go_wp2_with fail
        go_meet
        exact Lib.hid ⟨_, _, _, _, HS7.out.1.dcs true, hti.out.mark1 HT.out (by have := HOK.out.n4; have := HH.out.2.2.2.1; omega), HS7.out.2.1.trans (Ext.setC ..), HS7.out.2.2.ext (Ext.setC (F := F) ..) HBF.out.1 HBF.out.2⟩
    case rest =>
      obtain ⟨w4, rfl⟩ : ∃ w4 : World, w4 = wc := ⟨_, rfl⟩
      have H4 := hcut
      clear hcut HS3 hti
      obtain ⟨m, hm⟩ : ∃ m, (esv g a (mE g)).length = m := ⟨_, rfl⟩
      obtain ⟨ao, hao⟩ : ∃ ao, A a = ao := ⟨_, rfl⟩
      have hm20 : m ≤ 4096 := by rw [← hm]; exact Nat.le_trans (esv_len g a (mE g)) HOK.out.m4
      have HM := Lib.hid (And.intro hm hao)
      obtain ⟨_, _, _, _, hl4⟩ := H4.out
      have hcl := hl4.st.cl HH.out.2.2.2.1
      have c1 := hcl.rs HH.out.2.2.2.2
      rw [hm, hao] at c1
      have l1 := hcl.lp HH.out.2.2.2.2
      clear hcl hl4 hm hao
      go_wp2_with fail
      clear c1 l1
      go_loopg [86] m (fun gg x wx => ∃ (j : Nat), x = .int .i64 (j : Int) ∧ j ≤ m ∧ m - j ≤ gg ∧ Hid (Lp S F C P A K g p a B j (fun v => d v || v == a) w wx))
      case atStart =>
        obtain ⟨_, _, _, _, hl4⟩ := H4.out
        exact ⟨0, rfl, by omega, by omega, Lib.hid ⟨_, _, _, _, _, hl4, Mks.nil⟩⟩
      case round =>
        obtain ⟨j, rfl, hj, hg, HL⟩ := hrel
        obtain ⟨wz, rfl⟩ : ∃ wz : World, wz = wr := ⟨_, rfl⟩
        rcases (show m = j ∨ j < m by omega) with he | hlt
        · subst he
          obtain ⟨d', Pa', De', Re', dc', hl, hmk⟩ := HL.out
          have hcl := hl.st.cl HH.out.2.2.2.1
          have c1 := hcl.pa
          have c2 := hcl.de
          have c3 := hcl.ps
          have c4 := hcl.re
          have l1 := hcl.lf
          have HR := Lib.hid (And.intro hl hmk)
          clear hcl hl hmk
          obtain ⟨x, hx⟩ : ∃ x, (if d' a = true then p else 0) = x := ⟨_, rfl⟩
          obtain ⟨y, hy⟩ : ∃ y, 4294967295 - Pa' a = y := ⟨_, rfl⟩
          obtain ⟨z, hz⟩ : ∃ z, 4294967295 - De' a = z := ⟨_, rfl⟩
          obtain ⟨r, hr⟩ : ∃ r, Re' a = r := ⟨_, rfl⟩
          rw [hx] at c3
          rw [hy] at c1
          rw [hz] at c2
          rw [hr] at c4
          have HX := Lib.hid (And.intro hx (And.intro hy (And.intro hz hr)))
          clear hx hy hz hr
          go_wp2_with (refine wpList_store_blk rfl 66 (.tmp 8) (.tmp 154) rfl B z66 #[.int .u32 y, .int .u32 z, .int .u32 x, .int .u32 r] HR.out.1.rb rfl rfl rfl (info66 ..) (one66 ..) ?_; intro w5 hb5 hg5; have H5 := Lib.hid (And.intro hb5 hg5); clear hb5 hg5)
          refine bodyPost_ret (v := .agg (c66 y z x r)) (results_cell_row (d := _) Tryz.results19 _ _ B 66 _ (0, 0) (by rfl) H5.out.1 Tryz.underlying66 rfl (info66 ..)) rfl ⟨d', Pa', De', Re', dc', ?_, HR.out.1.st.past HR.out.1.rb (by decide) (by decide) (by decide) (by decide) (by decide) H5.out.2, ⟨fun _ => ?_, fun h => ?_⟩, HR.out.1.ti, HR.out.1.ex.past H5.out.2 (Nat.le_of_eq HH.out.1)⟩
          · unfold Ret
            rw [HX.out.1, HX.out.2.1, HX.out.2.2.1, HX.out.2.2.2]
          · have hmk := HR.out.2
            rw [List.take_of_length_le (by rw [HM.out.1]; exact Nat.le_refl _)] at hmk
            exact Mks.close HH.out.2.1 (fun h => h) (fun c => Iff.rfl) hmk
          · rw [HH.out.2.2.2.2] at h; cases h
        · obtain ⟨d', Pa', De', Re', dc', hl, hmk⟩ := HL.out
          obtain ⟨r, hA, lR, hc⟩ := hl.st.row HH.out.2.2.2.1 HH.out.2.2.2.2 (j := j) (by rw [HM.out.1]; exact hlt)
          have HL2 := Lib.hid (And.intro hl hmk)
          have HQF0 : Hid (wz.heap.size ≠ F ∧ wz.heap.size ≠ C) := Lib.hid (by have hcl := hl.st.cl HH.out.2.2.2.1; have := hcl.lf; have := hcl.lc; omega)
          have hao : ao = some ⟨r, 0, none⟩ := HM.out.2.symm.trans hA
          subst hao
          clear hl hmk hA HL
          obtain ⟨e, he⟩ : ∃ e, eat (esv g a (mE g)) j = e := ⟨_, rfl⟩
          have hem : e < mE g := by rw [← he]; exact (esv_lt (eat_mem _ j (by rw [HM.out.1]; exact hlt))).1
          rw [he] at hc
          obtain ⟨kk, hkk⟩ : ∃ kk, kdv g e = kk := ⟨_, rfl⟩
          obtain ⟨x, hx⟩ : ∃ x, flx g e = x := ⟨_, rfl⟩
          rw [hx, hkk] at hc
          have HE := Lib.hid (And.intro he (And.intro hem (And.intro hkk hx)))
          clear he hem hkk hx
          have r0 := hc 0 (by omega)
          have r1 := hc 1 (by omega)
          have r2 := hc 2 (by omega)
          have r3 := hc 3 (by omega)
          have r4 := hc 4 (by omega)
          have r5 := hc 5 (by omega)
          have r6 := hc 6 (by omega)
          have r7 := hc 7 (by omega)
          have r8 := hc 8 (by omega)
          have r9 := hc 9 (by omega)
          have r10 := hc 10 (by omega)
          have r11 := hc 11 (by omega)
          have r12 := hc 12 (by omega)
          have r13 := hc 13 (by omega)
          have r14 := hc 14 (by omega)
          simp only [rowL, List.getElem?_cons_zero, List.getElem?_cons_succ] at r0 r1 r2 r3 r4 r5 r6 r7 r8 r9 r10 r11 r12 r13 r14
          rw [Nat.add_zero] at r0
          clear hc
          obtain ⟨Q, hQ⟩ : ∃ Q, wz.heap.size = Q := ⟨_, rfl⟩
          go_upto_region 13 with fail
          clear r0 r1 r2 r3 r4 r5 r6 r7 r8 r9 r10 r11 r12 r13 r14 lR
          obtain ⟨w5, hw5⟩ : ∃ w5, (wz.alloc (.cells #[.pointer none, .pointer none, .string ⟨#[]⟩, .string ⟨#[]⟩, .string ⟨#[]⟩, .string ⟨#[]⟩, .int .u8 0, .int .i32 0, .int .i32 0, .int .i32 0, .int .u32 x, .int .u32 0, .int .u16 0, .int .u8 0, .int .u8 kk] 63)) = w5 := ⟨_, rfl⟩
          have H5 : Hid (wz.grownBy w5 none ∧ Blk w5 Q 63 #[.pointer none, .pointer none, .string ⟨#[]⟩, .string ⟨#[]⟩, .string ⟨#[]⟩, .string ⟨#[]⟩, .int .u8 0, .int .i32 0, .int .i32 0, .int .i32 0, .int .u32 x, .int .u32 0, .int .u16 0, .int .u8 0, .int .u8 kk]) := Lib.hid (by
            rw [← hw5]
            refine ⟨gb_alloc (gb_refl _ _) _, ?_⟩
            have := Blk.new wz 63 #[.pointer none, .pointer none, .string ⟨#[]⟩, .string ⟨#[]⟩, .string ⟨#[]⟩, .string ⟨#[]⟩, .int .u8 0, .int .i32 0, .int .i32 0, .int .i32 0, .int .u32 x, .int .u32 0, .int .u16 0, .int .u8 0, .int .u8 kk]
            rwa [hQ] at this)
          rw [hw5]
          rw [hQ] at HQF0
          clear hw5 hQ
          have q10 : w5.cell? ⟨Q, 10, none⟩ = some (.int .u32 x) := H5.out.2.cell 10
          have q14 : w5.cell? ⟨Q, 14, none⟩ = some (.int .u8 kk) := H5.out.2.cell 14
          have lQ := H5.out.2.lt
          by_cases hx0 : nth g.ds e < (g.ts.length : Int)
          · by_cases hk2 : nth g.kd e % 3 = 2
            · have hk3 : kk = 3 := by rw [← HE.out.2.2.1]; unfold kdv; rw [if_neg (by omega), if_neg (by omega)]
              subst hk3
              have HK2 := Lib.hid hk2
              clear hk2 hx0
              go_wp2_with (go_at_call 20; refine (valid_any _ _).mono ?_; rintro e w6 ⟨rfl, hg6⟩; have H6 := Lib.hid (gb_trans H5.out.1 hg6); have q14 : w6.cell? ⟨Q, 14, none⟩ = some (.int .u8 3) := (H5.out.2.gb hg6 (by simp)).cell 14; have lQ6 := (H5.out.2.gb hg6 (by simp)).lt; clear hg6)
              all_goals
                go_roundg (gk - 1)
                case measure => omega
                case rel => exact ⟨j + 1, by go_num, by omega, by omega, Lib.hid ⟨_, _, _, _, _, HL2.out.1.gb H6.out, Mks_no (by rw [HM.out.1]; exact hlt) (.inl (by rw [HE.out.1]; exact HK2.out)) HL2.out.2⟩⟩
            · obtain ⟨c, hcd⟩ : ∃ c : Nat, nth g.ds e = (c : Int) := ⟨(nth g.ds e).toNat, by have := HOK.out.d e HE.out.2.1; omega⟩
              have hcn : c < g.ts.length := by omega
              have hc4 : c < 4096 := by have := HOK.out.n4; omega
              have hxc : x = 4294967295 - (c : Int) := by
                rw [← HE.out.2.2.2]
                unfold flx
                rw [if_pos hx0, hcd]
              subst hxc
              have e3 : decide (4294967295 - (c : Int) = 0) = false := by simp; omega
              have e4 : (4294967295 - (c : Int) == 0) = false := by simp; omega
              have HGI := Lib.hid (fun w => geti_any (c : Int) (by omega) (by omega) w)
              have hk12 : kk = 1 ∨ kk = 2 := by
                rw [← HE.out.2.2.1]
                unfold kdv
                by_cases h0 : nth g.kd e % 3 = 0
                · rw [if_pos h0]; exact .inl rfl
                · rw [if_neg h0, if_pos (by have := HOK.out.k e HE.out.2.1; omega)]; exact .inr rfl
              have HCN := Lib.hid (And.intro hcn (And.intro hcd (And.intro hk2 hc4)))
              clear hx0 hk2 hcd hcn hc4
              have HR := Lib.hid (fun (w8 : World) (hg : wz.grownBy w8 none) => HIH.out c d' Pa' De' Re' dc' w8 HCN.out.1 (by
                have h1 := cnt_mono (Mks_mono HL2.out.2) g.ts.length
                have h2 := cnt_mark HH.out.2.1 g.ts.length HH.out.2.2.2.1
                have h3 := HH.out.2.2.1
                omega) (HL2.out.1.st.gb hg) HL2.out.1.ti)
              have HQF : Hid (Q ≠ F ∧ Q ≠ C) := HQF0
              rcases hk12 with hk1 | hk1
              · subst hk1
                go_upto_region 14 with (go_at_call 20; refine (valid_any _ _).mono ?_; rintro e w6 ⟨rfl, hg6⟩; have H6 := Lib.hid (gb_trans H5.out.1 hg6); have HB6 := Lib.hid (H5.out.2.gb hg6 (by simp)); have q6 : w6.cell? ⟨Q, 10, none⟩ = some (.int .u32 (4294967295 - (c : Int))) := HB6.out.cell 10; have q14 : w6.cell? ⟨Q, 14, none⟩ = some (.int .u8 1) := HB6.out.cell 14; have lQ6 := HB6.out.lt; clear hg6)
                clear e3 e4 q10 lQ
                go_upto_region 15 with (first
                  | (go_at_call 21; refine (HGI.out _).mono ?_; rintro e w7 ⟨rfl, hg7⟩; have H7 := Lib.hid (gb_trans H6.out hg7); have HB7 := Lib.hid (HB6.out.gb hg7 (by simp)); clear hg7)
                  | (go_at_call 19; refine (HR.out _ H7.out).mono ?_; rintro e w8 ⟨d2, P2, D2, R2, dc2, hret, hs2, hm2, ht2, hx2⟩; unfold Ret c66 at hret; obtain ⟨X, hX⟩ : ∃ X, 4294967295 - P2 c = X := ⟨_, rfl⟩; obtain ⟨Y, hY⟩ : ∃ Y, 4294967295 - D2 c = Y := ⟨_, rfl⟩; obtain ⟨Z, hZ⟩ : ∃ Z, (if d2 c = true then p else 0) = Z := ⟨_, rfl⟩; obtain ⟨V, hV⟩ : ∃ V, R2 c = V := ⟨_, rfl⟩; rw [hX, hY, hZ, hV] at hret; subst hret; have H8 := Lib.hid (And.intro hs2 (And.intro hm2 (And.intro ht2 (And.intro hx2 hY)))); have HB8 := Lib.hid (HB7.out.ext hx2 HQF.out.1 HQF.out.2); clear hX hY hZ hV hs2 hm2 ht2 hx2))
                clear q6 q14 lQ6
                obtain ⟨Q2, hQ2⟩ : ∃ Q2, w8.heap.size = Q2 := ⟨_, rfl⟩
                have HQ2 := Lib.hid hQ2
                try rw [hQ2]
                obtain ⟨w9, hw9⟩ : ∃ w9, w8.alloc (.cells #[.int .u32 X, .int .u32 Y, .int .u32 Z, .int .u32 V] 66) = w9 := ⟨_, rfl⟩
                have H9 : Hid (w8.grownBy w9 none ∧ Blk w9 Q 63 #[.pointer none, .pointer none, .string ⟨#[]⟩, .string ⟨#[]⟩, .string ⟨#[]⟩, .string ⟨#[]⟩, .int .u8 0, .int .i32 0, .int .i32 0, .int .i32 0, .int .u32 (4294967295 - (c : Int)), .int .u32 0, .int .u16 0, .int .u8 0, .int .u8 1] ∧ Blk w9 Q2 66 #[.int .u32 X, .int .u32 Y, .int .u32 Z, .int .u32 V]) := Lib.hid (by
                  rw [← hw9]
                  refine ⟨gb_alloc (gb_refl _ _) _, HB8.out.gb (show w8.grownBy _ none from gb_alloc (gb_refl _ _) _) (by simp), ?_⟩
                  have := Blk.new w8 66 #[.int .u32 X, .int .u32 Y, .int .u32 Z, .int .u32 V]
                  rwa [hQ2] at this)
                rw [hw9]
                clear hw9 hQ2
                have HL9 : Hid (Ls S F C P A K g p a B d2 w w9 P2 D2 R2 dc2 ∧ Mks (EE g) Z0 (fun v => d v || v == a) (csf g ((esv g a (mE g)).take (j + 1))) d2) := Lib.hid ⟨⟨H8.out.1.gb H9.out.1, H8.out.2.2.1, ((HL2.out.1.ex.trans (Ext.of_gb H7.out)).trans H8.out.2.2.2.1).trans (Ext.of_gb H9.out.1), ((HL2.out.1.rb.gb H7.out (by simp)).ext H8.out.2.2.2.1 HBF.out.1 HBF.out.2).gb H9.out.1 (by simp)⟩, Mks_go (by rw [HM.out.1]; exact hlt) (by rw [HE.out.1]; exact HCN.out.2.2.1) (by rw [HE.out.1]; exact HCN.out.2.1) HCN.out.1 HL2.out.2 H8.out.2.1⟩
                have q14 : w9.cell? ⟨Q, 14, none⟩ = some (.int .u8 1) := H9.out.2.1.cell 14
                have HQ2F : Hid (Q2 ≠ F ∧ Q2 ≠ C) := Lib.hid (by have hcl := H8.out.1.cl HH.out.2.2.2.1; have := hcl.lf; have := hcl.lc; exact ⟨by have h := HQ2.out; omega, by have h := HQ2.out; omega⟩)
                have lQ := H9.out.2.1.lt
                obtain ⟨y2, hy2⟩ : ∃ y2, 4294967295 - D2 a = y2 := ⟨_, rfl⟩
                have hF23 : w9.cell? ⟨F, a * 27 + 23, none⟩ = some (.int .u32 y2) := by rw [← hy2]; exact (HL9.out.1.st.cl HH.out.2.2.2.1).de
                have lF9 := (HL9.out.1.st.cl HH.out.2.2.2.1).lf
                have q21 : w9.cell? ⟨Q2, 1, none⟩ = some (.int .u32 Y) := H9.out.2.2.cell 1
                have lQ2 := H9.out.2.2.lt
                have HGY := Lib.hid (geti_any (D2 c) (by have := HL9.out.1.ti.dr c; omega) (HL9.out.1.ti.dr c).2)
                have HGA := Lib.hid (geti_any (D2 a) (by have := HL9.out.1.ti.dr a; omega) (HL9.out.1.ti.dr a).2)
                rw [hy2] at HGA
                rw [H8.out.2.2.2.2] at HGY
                obtain ⟨xc, hxc⟩ : ∃ xc, D2 c = xc := ⟨_, rfl⟩
                obtain ⟨xa, hxa⟩ : ∃ xa, D2 a = xa := ⟨_, rfl⟩
                rw [hxc] at HGY
                rw [hxa] at HGA
                obtain ⟨q, hq⟩ : ∃ q, xa - 1 = q := ⟨_, rfl⟩
                have hwq : IntKind.u32.wrap q = q := by
                  have := HL9.out.1.ti.dr a
                  rw [IntKind.wrap_u32]; omega
                have HXX := Lib.hid (And.intro hxc (And.intro hxa hq))
                clear hxc hxa hy2
                go_cut [126] (fun v wc => v = .bool (decide (xc < q)) ∧ Hid (w9.grownBy wc none))
                case first =>
                  have HK := Lib.hid (show ∀ w' wy : World, (w'.cell? ⟨Q, 14, none⟩ = some (.int .u8 1) ∧ w'.cell? ⟨Q2, 1, none⟩ = some (.int .u32 Y) ∧ w'.cell? ⟨F, a * 27 + 23, none⟩ = some (.int .u32 y2) ∧ w9.grownBy w' none) → w'.grownBy wy none → (wy.cell? ⟨Q, 14, none⟩ = some (.int .u8 1) ∧ wy.cell? ⟨Q2, 1, none⟩ = some (.int .u32 Y) ∧ wy.cell? ⟨F, a * 27 + 23, none⟩ = some (.int .u32 y2) ∧ w9.grownBy wy none) from fun w' wy ⟨h1, h2, h3, h4⟩ hg => ⟨(hg.cell_of_none h1), (hg.cell_of_none h2), (hg.cell_of_none h3), gb_trans h4 hg⟩)
                  have hgd : w9.grownBy w9.drew none := gb_drewN w9 1
                  go_region_held3 (fun w' => w'.cell? ⟨Q, 14, none⟩ = some (.int .u8 1) ∧ w'.cell? ⟨Q2, 1, none⟩ = some (.int .u32 Y) ∧ w'.cell? ⟨F, a * 27 + 23, none⟩ = some (.int .u32 y2) ∧ w9.grownBy w' none) (first | (go_keep; done) | assumption)
                    (first
                    | (go_at_call 21; refine (HGY.out _).mono ?_; rintro e wy ⟨rfl, hg⟩; have hSy := HK.out _ _ (by assumption) hg)
                    | (go_at_call 21; refine (HGA.out _).mono ?_; rintro e wy ⟨rfl, hg⟩; have hSy := HK.out _ _ (by assumption) hg))
                  all_goals
                    go_wp2_with fail
                    go_meet
                    exact ⟨rfl, Lib.hid hSy.2.2.2⟩
                case rest => 
                  obtain ⟨rfl, HW⟩ := hcut
                  obtain ⟨w10, rfl⟩ : ∃ w10 : World, w10 = wc := ⟨_, rfl⟩
                  have HL10 : Hid (Ls S F C P A K g p a B d2 w w10 P2 D2 R2 dc2) := Lib.hid (HL9.out.1.gb HW.out)
                  have HQ10 := Lib.hid (H9.out.2.1.gb HW.out (by simp))
                  have HP10 := Lib.hid (H9.out.2.2.gb HW.out (by simp))
                  clear HW q14 lQ hF23 lF9 q21 lQ2 HGA
                  by_cases hlt2 : xc < q
                  · have hd2 : decide (xc < q) = true := by simp [hlt2]
                    have HLT := Lib.hid hlt2
                    rw [hd2]
                    clear hd2 hlt2
                    have hcl := HL10.out.st.cl HH.out.2.2.2.1
                    have k22 := hcl.pa
                    have f22 := hcl.ff (a * 27 + 22)
                    have lf := hcl.lf
                    have q10 := HQ10.out.cell 10
                    have q10 : w10.cell? ⟨Q, 10, none⟩ = some (.int .u32 (4294967295 - (c : Int))) := q10
                    have lQ := HQ10.out.lt
                    clear hcl
                    go_upto_region 17 with fail
                    clear k22 f22 lf q10 lQ
                    have HS11 : Hid (St (w10.setCell ⟨F, a * 27 + 22, none⟩ (.int .u32 (4294967295 - (c : Int)))) S F C P A K g p d2 (put P2 a (c : Int)) D2 R2 dc2 ∧ Ext F C w (w10.setCell ⟨F, a * 27 + 22, none⟩ (.int .u32 (4294967295 - (c : Int)))) ∧ Blk (w10.setCell ⟨F, a * 27 + 22, none⟩ (.int .u32 (4294967295 - (c : Int)))) B 66 z66 ∧ Blk (w10.setCell ⟨F, a * 27 + 22, none⟩ (.int .u32 (4294967295 - (c : Int)))) Q2 66 #[.int .u32 X, .int .u32 Y, .int .u32 Z, .int .u32 V]) := Lib.hid ⟨HL10.out.st.par HH.out.2.2.2.1 _, HL10.out.ex.trans (Ext.setF ..), HL10.out.rb.ext (Ext.setF (C := C) ..) HBF.out.1 HBF.out.2, HP10.out.ext (Ext.setF (C := C) ..) HQ2F.out.1 HQ2F.out.2⟩
                    clear HQ10 HP10
                    generalize w10.setCell ⟨F, a * 27 + 22, none⟩ (.int .u32 (4294967295 - (c : Int))) = w11 at HS11 ⊢
                    have q21 : w11.cell? ⟨Q2, 1, none⟩ = some (.int .u32 Y) := HS11.out.2.2.2.cell 1
                    have lQ2 := HS11.out.2.2.2.lt
                    obtain ⟨x1, hx1⟩ : ∃ x1, xc + 1 = x1 := ⟨_, rfl⟩
                    have hw1 : IntKind.u32.wrap x1 = x1 := by
                      have h1 := HL10.out.ti.dr a
                      have h2 := HL10.out.ti.dr c
                      have h3 := HXX.out
                      have h4 := HLT.out
                      rw [IntKind.wrap_u32]; omega
                    have HM1 := Lib.hid (mk_any x1 (by have h2 := HL10.out.ti.dr c; have h3 := HXX.out; clear hw1 hwq; omega) (by have h1 := HL10.out.ti.dr a; have h3 := HXX.out; have h4 := HLT.out; clear hw1 hwq; omega))
                    have HX1 := Lib.hid hx1
                    go_upto_region 18 with (first
                      | (go_at_call 21; refine (HGY.out _).mono ?_; rintro e w12 ⟨rfl, hg⟩; have H12 := Lib.hid hg; clear hg)
                      | (go_at_call 16; refine (HM1.out _).mono ?_; rintro e w13 ⟨rfl, hg⟩; have H13 := Lib.hid (gb_trans H12.out hg); have hcl := (HS11.out.1.gb H13.out).cl HH.out.2.2.2.1; have k23 := hcl.de; have f23 := hcl.ff (a * 27 + 23); have lf := hcl.lf; clear hcl hg))
                    clear k23 f23 lf q21 lQ2 hx1 hw1
                    have HS14 : Hid (St (w13.setCell ⟨F, a * 27 + 23, none⟩ (.int .u32 (4294967295 - x1))) S F C P A K g p d2 (put P2 a (c : Int)) (put D2 a x1) R2 dc2 ∧ Ext F C w (w13.setCell ⟨F, a * 27 + 23, none⟩ (.int .u32 (4294967295 - x1))) ∧ Blk (w13.setCell ⟨F, a * 27 + 23, none⟩ (.int .u32 (4294967295 - x1))) B 66 z66) := Lib.hid ⟨(HS11.out.1.gb H13.out).dep HH.out.2.2.2.1 _, (HS11.out.2.1.trans (Ext.of_gb H13.out)).trans (Ext.setF ..), (HS11.out.2.2.1.gb H13.out (by simp)).ext (Ext.setF (C := C) ..) HBF.out.1 HBF.out.2⟩
                    clear HS11 H12 H13
                    generalize w13.setCell ⟨F, a * 27 + 23, none⟩ (.int .u32 (4294967295 - x1)) = w14 at HS14 ⊢
                    have hcl := HS14.out.1.cl HH.out.2.2.2.1
                    have k25 := hcl.re
                    have f25 := hcl.ff (a * 27 + 25)
                    have lf := hcl.lf
                    clear hcl
                    have hwj : IntKind.u32.wrap (j : Int) = (j : Int) := by rw [IntKind.wrap_u32]; omega
                    go_upto_region 19 with fail
                    clear k25 f25 lf hwj
                    have HS15 : Hid (St (w14.setCell ⟨F, a * 27 + 25, none⟩ (.int .u32 (j : Int))) S F C P A K g p d2 (put P2 a (c : Int)) (put D2 a x1) (put R2 a (j : Int)) dc2 ∧ Ext F C w (w14.setCell ⟨F, a * 27 + 25, none⟩ (.int .u32 (j : Int))) ∧ Blk (w14.setCell ⟨F, a * 27 + 25, none⟩ (.int .u32 (j : Int))) B 66 z66) := Lib.hid ⟨HS14.out.1.rec_ HH.out.2.2.2.1 _, HS14.out.2.1.trans (Ext.setF ..), HS14.out.2.2.ext (Ext.setF (C := C) ..) HBF.out.1 HBF.out.2⟩
                    clear HS14
                    generalize w14.setCell ⟨F, a * 27 + 25, none⟩ (.int .u32 (j : Int)) = w15 at HS15 ⊢
                    have hcl := HS15.out.1.cl HH.out.2.2.2.1
                    have kc := hcl.c
                    have fc := hcl.fc
                    have lc := hcl.lc
                    clear hcl
                    go_wp2_with fail
                    go_roundg (gk - 1)
                    case measure => clear hwq; omega
                    case rel =>
                      refine ⟨j + 1, by go_num, by clear hwq; omega, by clear hwq; omega, Lib.hid ⟨_, _, _, _, _, ⟨HS15.out.1.dcs true, ?_, HS15.out.2.1.trans (Ext.setC ..), HS15.out.2.2.ext (Ext.setC (F := F) ..) HBF.out.1 HBF.out.2⟩, HL9.out.2⟩⟩
                      have h3 := HXX.out
                      have h5 := HX1.out
                      have hn := HL10.out.ti.near (a := a) (x := c) (i := (j : Int)) ((HL9.out.2 a).2 (.inl (by simp))) (by have := HCN.out.2.2.2; clear hwq; omega) (by have h4 := HLT.out; clear hwq; omega)
                      rw [h3.1, h5] at hn
                      exact hn
                  · have hd2 : decide (xc < q) = false := by simp [hlt2]
                    rw [hd2]
                    clear hlt2 hd2
                    go_wp2_with fail
                    go_roundg (gk - 1)
                    case measure => clear hwq; omega
                    case rel => exact ⟨j + 1, by go_num, by clear hwq; omega, by clear hwq; omega, Lib.hid ⟨_, _, _, _, _, HL10.out, HL9.out.2⟩⟩
              · subst hk1
                go_upto_region 14 with (go_at_call 20; refine (valid_any _ _).mono ?_; rintro e w6 ⟨rfl, hg6⟩; have H6 := Lib.hid (gb_trans H5.out.1 hg6); have HB6 := Lib.hid (H5.out.2.gb hg6 (by simp)); have q6 : w6.cell? ⟨Q, 10, none⟩ = some (.int .u32 (4294967295 - (c : Int))) := HB6.out.cell 10; have q14 : w6.cell? ⟨Q, 14, none⟩ = some (.int .u8 2) := HB6.out.cell 14; have lQ6 := HB6.out.lt; clear hg6)
                clear e3 e4 q10 lQ
                go_upto_region 15 with (first
                  | (go_at_call 21; refine (HGI.out _).mono ?_; rintro e w7 ⟨rfl, hg7⟩; have H7 := Lib.hid (gb_trans H6.out hg7); have HB7 := Lib.hid (HB6.out.gb hg7 (by simp)); clear hg7)
                  | (go_at_call 19; refine (HR.out _ H7.out).mono ?_; rintro e w8 ⟨d2, P2, D2, R2, dc2, hret, hs2, hm2, ht2, hx2⟩; unfold Ret c66 at hret; obtain ⟨X, hX⟩ : ∃ X, 4294967295 - P2 c = X := ⟨_, rfl⟩; obtain ⟨Y, hY⟩ : ∃ Y, 4294967295 - D2 c = Y := ⟨_, rfl⟩; obtain ⟨Z, hZ⟩ : ∃ Z, (if d2 c = true then p else 0) = Z := ⟨_, rfl⟩; obtain ⟨V, hV⟩ : ∃ V, R2 c = V := ⟨_, rfl⟩; rw [hX, hY, hZ, hV] at hret; subst hret; have H8 := Lib.hid (And.intro hs2 (And.intro hm2 (And.intro ht2 (And.intro hx2 hY)))); have HB8 := Lib.hid (HB7.out.ext hx2 HQF.out.1 HQF.out.2); clear hX hY hZ hV hs2 hm2 ht2 hx2))
                clear q6 q14 lQ6
                obtain ⟨Q2, hQ2⟩ : ∃ Q2, w8.heap.size = Q2 := ⟨_, rfl⟩
                try rw [hQ2]
                obtain ⟨w9, hw9⟩ : ∃ w9, w8.alloc (.cells #[.int .u32 X, .int .u32 Y, .int .u32 Z, .int .u32 V] 66) = w9 := ⟨_, rfl⟩
                have H9 : Hid (w8.grownBy w9 none ∧ Blk w9 Q 63 #[.pointer none, .pointer none, .string ⟨#[]⟩, .string ⟨#[]⟩, .string ⟨#[]⟩, .string ⟨#[]⟩, .int .u8 0, .int .i32 0, .int .i32 0, .int .i32 0, .int .u32 (4294967295 - (c : Int)), .int .u32 0, .int .u16 0, .int .u8 0, .int .u8 2] ∧ Blk w9 Q2 66 #[.int .u32 X, .int .u32 Y, .int .u32 Z, .int .u32 V]) := Lib.hid (by
                  rw [← hw9]
                  refine ⟨gb_alloc (gb_refl _ _) _, HB8.out.gb (show w8.grownBy _ none from gb_alloc (gb_refl _ _) _) (by simp), ?_⟩
                  have := Blk.new w8 66 #[.int .u32 X, .int .u32 Y, .int .u32 Z, .int .u32 V]
                  rwa [hQ2] at this)
                rw [hw9]
                clear hw9 hQ2
                have HL9 : Hid (Ls S F C P A K g p a B d2 w w9 P2 D2 R2 dc2 ∧ Mks (EE g) Z0 (fun v => d v || v == a) (csf g ((esv g a (mE g)).take (j + 1))) d2) := Lib.hid ⟨⟨H8.out.1.gb H9.out.1, H8.out.2.2.1, ((HL2.out.1.ex.trans (Ext.of_gb H7.out)).trans H8.out.2.2.2.1).trans (Ext.of_gb H9.out.1), ((HL2.out.1.rb.gb H7.out (by simp)).ext H8.out.2.2.2.1 HBF.out.1 HBF.out.2).gb H9.out.1 (by simp)⟩, Mks_go (by rw [HM.out.1]; exact hlt) (by rw [HE.out.1]; exact HCN.out.2.2.1) (by rw [HE.out.1]; exact HCN.out.2.1) HCN.out.1 HL2.out.2 H8.out.2.1⟩
                have q14 : w9.cell? ⟨Q, 14, none⟩ = some (.int .u8 2) := H9.out.2.1.cell 14
                have lQ := H9.out.2.1.lt
                have ev : ((2 : Int) == 1) = false := by decide
                have ev2 : decide ((2 : Int) = 1) = false := by decide
                go_quiet (fail)
                go_wp2_with fail
                go_roundg (gk - 1)
                case measure => omega
                case rel => exact ⟨j + 1, by go_num, by omega, by omega, Lib.hid ⟨_, _, _, _, _, HL9.out.1.gb (gb_drewN _ _), HL9.out.2⟩⟩
          · have hx1 : x = 0 := by rw [← HE.out.2.2.2]; unfold flx; rw [if_neg hx0]
            subst hx1
            have HX0 := Lib.hid hx0
            clear hx0
            go_wp2_with (go_at_call 20; refine (valid_any _ _).mono ?_; rintro e w6 ⟨rfl, hg6⟩; have H6 := Lib.hid (gb_trans H5.out.1 hg6); clear hg6)
            go_roundg (gk - 1)
            case measure => omega
            case rel => exact ⟨j + 1, by go_num, by omega, by omega, Lib.hid ⟨_, _, _, _, _, HL2.out.1.gb H6.out, Mks_no (by rw [HM.out.1]; exact hlt) (.inr (by rw [HE.out.1]; have := HX0.out; omega)) HL2.out.2⟩⟩
theorem dfs_any (S F C : Nat) (P : Nat → Nat) (A : Nat → Option Addr) (K : Nat → Nat) (g : Gx) (hok : OkG g) (p : Int) (hp0 : p ≠ 0) : ∀ (k a : Nat) (d : Nat → Bool) (Pa De Re : Nat → Int) (dc : Bool) (w : World), a < g.ts.length → cnt d g.ts.length ≤ k → St w S F C P A K g p d Pa De Re dc → TI (tlv g) d Pa De Re dc →
    Calls Tryz.prog 19 #[.pointer (some ⟨S, 0, none⟩), .int .u32 (a : Int), .int .u32 p, .pointer (some ⟨C, 0, none⟩)] w (Dfs S F C P A K g p a d w) := by
  have still : ∀ (a : Nat) (d : Nat → Bool) (Pa De Re : Nat → Int) (dc : Bool) (w : World), a < g.ts.length → St w S F C P A K g p d Pa De Re dc → TI (tlv g) d Pa De Re dc → (prs g a = false ∨ d a = true) →
      Calls Tryz.prog 19 #[.pointer (some ⟨S, 0, none⟩), .int .u32 (a : Int), .int .u32 p, .pointer (some ⟨C, 0, none⟩)] w (Dfs S F C P A K g p a d w) := by
    intro a d Pa De Re dc w ha hs ht hc
    refine (dfs_still S F C P A K g p d Pa De Re dc a ha (hc.imp id (fun h => by rw [if_pos h])) w hs).mono ?_
    rintro e w' ⟨hr, hg⟩
    refine ⟨d, Pa, De, Re, dc, hr, hs.gb hg, ⟨fun hp => ?_, fun _ => rfl⟩, ht, Ext.of_gb hg⟩
    rcases hc with h | h
    · rw [h] at hp; cases hp
    · exact Mkd.done h
  intro k
  induction k with
  | zero =>
    intro a d Pa De Re dc w ha hk hs ht
    exact still a d Pa De Re dc w ha hs ht (.inr (cnt_zero g.ts.length (by omega) ha))
  | succ k ih =>
    intro a d Pa De Re dc w ha hk hs ht
    cases hp : prs g a with
    | false => exact still a d Pa De Re dc w ha hs ht (.inl hp)
    | true =>
      cases hd : d a with
      | true => exact still a d Pa De Re dc w ha hs ht (.inr hd)
      | false => exact dfs_step S F C P A K g hok p hp0 k (fun a d Pa De Re dc w h1 h2 h3 h4 => ih a d Pa De Re dc w h1 h2 h3 h4) a ha d Pa De Re dc hp hd hk w hs ht
end Go.Proofs.YtffilaoipcjcmaaGreat
