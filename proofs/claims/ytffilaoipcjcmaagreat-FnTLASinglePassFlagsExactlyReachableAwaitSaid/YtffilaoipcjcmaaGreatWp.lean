/-
  The law's wrappers: the check answered, the check stored, the stamp. No statement of the seat is proved here.
-/
import Derived.Test.YtffilaoipcjcmaaGreatDf
namespace Go.Proofs.YtffilaoipcjcmaaGreat
open Go.RowKit
set_option linter.unusedVariables false
set_option linter.unusedSimpArgs false

theorem results_tmp4 {fn : Func} {t u v x : Tmp} (h : fn.results = #[.tmp t, .tmp u, .tmp v, .tmp x]) (tmps : Array Value) (P : Program) (w : World) :
    (results fn tmps).run P w = .ok (.tuple #[tmps.getD t undef, tmps.getD u undef, tmps.getD v undef, tmps.getD x undef]) w := by
  simp [results, h]
/-- the four answers of a check -/
def Ans (P D R : Int) (e : Ending) : Prop := e = .returned (.tuple #[.bool (!(P == 4294967295)), .int .u32 P, .int .u32 D, .int .u32 R])
section
variable {S F C : Nat} {P : Nat → Nat} {A : Nat → Option Addr} {K : Nat → Nat} {g : Gx} {p : Int} {d : Nat → Bool} {Pa De Re : Nat → Int} {dc : Bool}
theorem tp_any (v : Nat) (hv : v < g.ts.length) (w : World) (hs : St w S F C P A K g p d Pa De Re dc) :
    Calls Tryz.prog 14 #[.pointer (some ⟨S, 0, none⟩), .int .i64 (v : Int)] w fun e w' => e = .returned (.int .u32 (if d v = true then p else 0)) ∧ w' = w := by
  have hcl := hs.cl hv
  have c1 := hcl.s
  have l1 := hcl.ls
  have c2 := hcl.ps
  have l2 := hcl.lf
  obtain ⟨x, hx⟩ : ∃ x, (if d v = true then p else 0) = x := ⟨_, rfl⟩
  obtain ⟨n, hn⟩ : ∃ n, g.ts.length = n := ⟨_, rfl⟩
  rw [hx] at c2 ⊢
  rw [hn] at c1 hv
  clear hcl hs hx hn
  go_enter Tryz.func14, Tryz.ntmps14
  go_wp2_with fail
  go_ret
  exact ⟨rfl, rfl⟩
set_option maxHeartbeats 4000000 in
set_option maxRecDepth 100000 in
theorem tc_any (v : Nat) (hv : v < g.ts.length) (w : World) (hs : St w S F C P A K g p d Pa De Re dc) (hp : 0 ≤ Pa v ∧ Pa v ≤ 4294967295) (hd : 0 ≤ De v ∧ De v ≤ 4294967295) :
    Calls Tryz.prog 12 #[.pointer (some ⟨S, 0, none⟩), .int .i64 (v : Int)] w fun e w' => Ans (Pa v) (De v) (Re v) e ∧ w.grownBy w' none := by
  have hcl := hs.cl hv
  have c1 := hcl.s
  have l1 := hcl.ls
  have c2 := hcl.pa
  have c3 := hcl.de
  have c4 := hcl.ps
  have c5 := hcl.re
  have l2 := hcl.lf
  have HGP := Lib.hid (geti_any (Pa v) hp.1 hp.2)
  have HGD := Lib.hid (geti_any (De v) hd.1 hd.2)
  have HPE : Hid (((4294967295 - Pa v == 0) : Bool) = (Pa v == 4294967295)) := Lib.hid (by rw [Bool.eq_iff_iff]; simp; omega)
  obtain ⟨x, hx⟩ : ∃ x, (if d v = true then p else 0) = x := ⟨_, rfl⟩
  obtain ⟨y, hy⟩ : ∃ y, 4294967295 - Pa v = y := ⟨_, rfl⟩
  obtain ⟨z, hz⟩ : ∃ z, 4294967295 - De v = z := ⟨_, rfl⟩
  obtain ⟨r, hr⟩ : ∃ r, Re v = r := ⟨_, rfl⟩
  obtain ⟨pv, hpv⟩ : ∃ pv, Pa v = pv := ⟨_, rfl⟩
  obtain ⟨dv, hdv⟩ : ∃ dv, De v = dv := ⟨_, rfl⟩
  obtain ⟨n, hn⟩ : ∃ n, g.ts.length = n := ⟨_, rfl⟩
  rw [hx] at c4
  rw [hy] at c2 HGP HPE
  rw [hz] at c3 HGD
  rw [hr] at c5 ⊢
  rw [hpv] at HGP HPE ⊢
  rw [hdv] at HGD ⊢
  rw [hn] at c1 hv
  have HV := Lib.hid (fun w => valid_any y w)
  clear hcl hs hx hy hz hr hn hp hd hpv hdv
  obtain ⟨B, hB⟩ : ∃ B, w.heap.size = B := ⟨_, rfl⟩
  have hb0 := Blk.new w 66 #[.int .u32 y, .int .u32 z, .int .u32 x, .int .u32 r]
  rw [hB] at hb0
  have H0 := Lib.hid (And.intro hb0 (show w.grownBy (w.alloc (.cells #[.int .u32 y, .int .u32 z, .int .u32 x, .int .u32 r] 66)) none from gb_alloc (gb_refl _ _) _))
  clear hb0
  go_enter Tryz.func12, Tryz.ntmps12
  go_upto_region 2 with fail
  try rw [hB]
  clear hB c1 c2 c3 c4 c5 l1 l2
  generalize w.alloc (.cells #[.int .u32 y, .int .u32 z, .int .u32 x, .int .u32 r] 66) = w1 at H0 ⊢
  have q0 : w1.cell? ⟨B, 0, none⟩ = some (.int .u32 y) := H0.out.1.cell 0
  have q1 : w1.cell? ⟨B, 1, none⟩ = some (.int .u32 z) := H0.out.1.cell 1
  have q3 : w1.cell? ⟨B, 3, none⟩ = some (.int .u32 r) := H0.out.1.cell 3
  have lB := H0.out.1.lt
  have HK := Lib.hid (show ∀ w' wy : World, (w'.cell? ⟨B, 0, none⟩ = some (.int .u32 y) ∧ w'.cell? ⟨B, 1, none⟩ = some (.int .u32 z) ∧ w'.cell? ⟨B, 3, none⟩ = some (.int .u32 r) ∧ w1.grownBy w' none) → w'.grownBy wy none → (wy.cell? ⟨B, 0, none⟩ = some (.int .u32 y) ∧ wy.cell? ⟨B, 1, none⟩ = some (.int .u32 z) ∧ wy.cell? ⟨B, 3, none⟩ = some (.int .u32 r) ∧ w1.grownBy wy none) from fun w' wy ⟨h1, h2, h3, h4⟩ hg => ⟨(hg.cell_of_none h1), (hg.cell_of_none h2), (hg.cell_of_none h3), gb_trans h4 hg⟩)
  have hgd : w1.grownBy w1.drew none := gb_drewN w1 1
  go_region_held3 (fun w' => w'.cell? ⟨B, 0, none⟩ = some (.int .u32 y) ∧ w'.cell? ⟨B, 1, none⟩ = some (.int .u32 z) ∧ w'.cell? ⟨B, 3, none⟩ = some (.int .u32 r) ∧ w1.grownBy w' none) (first | (go_keep; done) | assumption)
    (first
    | (go_at_call 20; refine (HV.out _).mono ?_; rintro e wy ⟨rfl, hg⟩; have hSy := HK.out _ _ (by assumption) hg)
    | (go_at_call 21; refine (HGP.out _).mono ?_; rintro e wy ⟨rfl, hg⟩; have hSy := HK.out _ _ (by assumption) hg)
    | (go_at_call 21; refine (HGD.out _).mono ?_; rintro e wy ⟨rfl, hg⟩; have hSy := HK.out _ _ (by assumption) hg))
  all_goals
    go_wp2_with fail
    (try simp only [Exit.inBlock, Exit.then])
    refine bodyPost_ret (results_tmp4 rfl _ _ _) rfl ⟨?_, gb_trans H0.out.2 hSy.2.2.2⟩
    unfold Ans
    rw [← HPE.out]
    rfl
/-- what a call on file a leaves, M told of the marks -/
def Dfm (M : (Nat → Bool) → Prop) (S F C : Nat) (P : Nat → Nat) (A : Nat → Option Addr) (K : Nat → Nat) (g : Gx) (p : Int) (a : Nat) (w : World) (e : Ending) (w' : World) : Prop :=
  ∃ d' Pa' De' Re' dc', Ret p a d' Pa' De' Re' e ∧ St w' S F C P A K g p d' Pa' De' Re' dc' ∧ M d' ∧ TI (tlv g) d' Pa' De' Re' dc' ∧ Ext F C w w'
/-- the marks of one pass from a on a fresh graph -/
def Rt (g : Gx) (p : Int) (a : Nat) (d' : Nat → Bool) : Prop := (p ≠ 0 ∧ prs g a = true → Mkd (EE g) Z0 (fun _ => false) a d') ∧ (¬ (p ≠ 0 ∧ prs g a = true) → d' = fun _ => false)
theorem root_any (hok : OkG g) (a : Nat) (ha : a < g.ts.length) (w : World) (hs : St w S F C P A K g p (fun _ => false) (fun _ => 4294967295) (fun _ => 4294967295) (fun _ => 0) false) :
    Calls Tryz.prog 19 #[.pointer (some ⟨S, 0, none⟩), .int .u32 (a : Int), .int .u32 p, .pointer (some ⟨C, 0, none⟩)] w (Dfm (Rt g p a) S F C P A K g p a w) := by
  by_cases hp : p = 0
  · refine (dfs_still S F C P A K g p _ _ _ _ _ a ha (.inr (by rw [if_neg (by simp)]; exact hp.symm)) w hs).mono ?_
    rintro e w' ⟨hr, hg⟩
    exact ⟨_, _, _, _, _, hr, hs.gb hg, ⟨fun h => absurd hp h.1, fun _ => rfl⟩, TI.init, Ext.of_gb hg⟩
  · refine (dfs_any S F C P A K g hok p hp (cnt (fun _ => false) g.ts.length) a _ _ _ _ _ w ha (Nat.le_refl _) hs TI.init).mono ?_
    rintro e w' ⟨d', Pa', De', Re', dc', h1, h2, h3, h4, h5⟩
    refine ⟨d', Pa', De', Re', dc', h1, h2, ⟨fun h => h3.1 h.2, fun h => h3.2 ?_⟩, h4, h5⟩
    cases hq : prs g a with
    | false => rfl
    | true => exact absurd ⟨hp, hq⟩ h
/-- the call of the law: what a pass leaves -/
def Zdm (M : (Nat → Bool) → Prop) (S F C : Nat) (P : Nat → Nat) (A : Nat → Option Addr) (K : Nat → Nat) (g : Gx) (p : Int) (a : Nat) (w : World) (e : Ending) (w' : World) : Prop :=
  ∃ d' Pa' De' Re' dc', Ans (Pa' a) (De' a) (Re' a) e ∧ St w' S F C P A K g p d' Pa' De' Re' dc' ∧ M d' ∧ TI (tlv g) d' Pa' De' Re' dc' ∧ Ext F C w w'
set_option maxHeartbeats 4000000 in
set_option maxRecDepth 100000 in
theorem zv_any (M : (Nat → Bool) → Prop) (a : Nat) (w : World) (H : Calls Tryz.prog 19 #[.pointer (some ⟨S, 0, none⟩), .int .u32 (a : Int), .int .u32 p, .pointer (some ⟨C, 0, none⟩)] w (Dfm M S F C P A K g p a w)) :
    Calls Tryz.prog 11 #[.pointer (some ⟨S, 0, none⟩), .int .u32 (a : Int), .int .u32 p, .pointer (some ⟨C, 0, none⟩)] w (Zdm M S F C P A K g p a w) := by
  have HC := Lib.hid H
  clear H
  go_enter Tryz.func11, Tryz.ntmps11
  go_upto_region 2 with (go_at_call 19; refine HC.out.mono ?_; rintro e w8 ⟨d2, P2, D2, R2, dc2, hret, hs2, hm2, ht2, hx2⟩; unfold Ret c66 at hret; obtain ⟨y, hX⟩ : ∃ X, 4294967295 - P2 a = X := ⟨_, rfl⟩; obtain ⟨z, hY⟩ : ∃ Y, 4294967295 - D2 a = Y := ⟨_, rfl⟩; obtain ⟨x, hZ⟩ : ∃ Z, (if d2 a = true then p else 0) = Z := ⟨_, rfl⟩; obtain ⟨r, hV⟩ : ∃ V, R2 a = V := ⟨_, rfl⟩; rw [hX, hY, hZ, hV] at hret; subst hret; have H8 := Lib.hid (And.intro hs2 (And.intro hm2 (And.intro ht2 (And.intro hx2 (And.intro hX (And.intro hY hV)))))); clear hX hY hZ hV hs2 hm2 ht2 hx2)
  obtain ⟨B, hB⟩ : ∃ B, w8.heap.size = B := ⟨_, rfl⟩
  have hb0 := Blk.new w8 66 #[.int .u32 y, .int .u32 z, .int .u32 x, .int .u32 r]
  rw [hB] at hb0
  have H0 := Lib.hid (And.intro hb0 (show w8.grownBy (w8.alloc (.cells #[.int .u32 y, .int .u32 z, .int .u32 x, .int .u32 r] 66)) none from gb_alloc (gb_refl _ _) _))
  clear hb0
  try rw [hB]
  clear hB
  generalize w8.alloc (.cells #[.int .u32 y, .int .u32 z, .int .u32 x, .int .u32 r] 66) = w1 at H0 ⊢
  have HB := H8.out.2.2.1
  have hp : 0 ≤ P2 a ∧ P2 a ≤ 4294967295 := HB.pr a
  have hd : 0 ≤ D2 a ∧ D2 a ≤ 4294967295 := ⟨by have := (HB.dr a).1; omega, (HB.dr a).2⟩
  have HGP := Lib.hid (geti_any (P2 a) hp.1 hp.2)
  have HGD := Lib.hid (geti_any (D2 a) hd.1 hd.2)
  have HPE : Hid (((4294967295 - P2 a == 0) : Bool) = (P2 a == 4294967295)) := Lib.hid (by rw [Bool.eq_iff_iff]; simp; omega)
  have HFIN : Hid (∀ wy : World, w1.grownBy wy none → Zdm M S F C P A K g p a w (.returned (.tuple #[.bool (!(y == 0)), .int .u32 (P2 a), .int .u32 (D2 a), .int .u32 r])) wy) := Lib.hid (fun wy hg => by
    obtain ⟨h1, h2, h3, h4, h5, h6, h7⟩ := H8.out
    refine ⟨d2, P2, D2, R2, dc2, ?_, (h1.gb H0.out.2).gb hg, h2, h3, (h4.trans (Ext.of_gb H0.out.2)).trans (Ext.of_gb hg)⟩
    unfold Ans
    rw [← HPE.out, h5, h7])
  rw [H8.out.2.2.2.2.1] at HGP
  rw [H8.out.2.2.2.2.2.1] at HGD
  clear hp hd HPE HB
  obtain ⟨pv, hpv⟩ : ∃ pv, P2 a = pv := ⟨_, rfl⟩
  obtain ⟨dv, hdv⟩ : ∃ dv, D2 a = dv := ⟨_, rfl⟩
  rw [hpv] at HGP HFIN
  rw [hdv] at HGD HFIN
  clear hpv hdv
  have HV := Lib.hid (fun w => valid_any y w)
  have q0 : w1.cell? ⟨B, 0, none⟩ = some (.int .u32 y) := H0.out.1.cell 0
  have q1 : w1.cell? ⟨B, 1, none⟩ = some (.int .u32 z) := H0.out.1.cell 1
  have q3 : w1.cell? ⟨B, 3, none⟩ = some (.int .u32 r) := H0.out.1.cell 3
  have lB := H0.out.1.lt
  have HK := Lib.hid (show ∀ w' wy : World, (w'.cell? ⟨B, 0, none⟩ = some (.int .u32 y) ∧ w'.cell? ⟨B, 1, none⟩ = some (.int .u32 z) ∧ w'.cell? ⟨B, 3, none⟩ = some (.int .u32 r) ∧ w1.grownBy w' none) → w'.grownBy wy none → (wy.cell? ⟨B, 0, none⟩ = some (.int .u32 y) ∧ wy.cell? ⟨B, 1, none⟩ = some (.int .u32 z) ∧ wy.cell? ⟨B, 3, none⟩ = some (.int .u32 r) ∧ w1.grownBy wy none) from fun w' wy ⟨h1, h2, h3, h4⟩ hg => ⟨(hg.cell_of_none h1), (hg.cell_of_none h2), (hg.cell_of_none h3), gb_trans h4 hg⟩)
  have hgd : w1.grownBy w1.drew none := gb_drewN w1 1
  go_region_held3 (fun w' => w'.cell? ⟨B, 0, none⟩ = some (.int .u32 y) ∧ w'.cell? ⟨B, 1, none⟩ = some (.int .u32 z) ∧ w'.cell? ⟨B, 3, none⟩ = some (.int .u32 r) ∧ w1.grownBy w' none) (first | (go_keep; done) | assumption)
    (first
    | (go_at_call 20; refine (HV.out _).mono ?_; rintro e wy ⟨rfl, hg⟩; have hSy := HK.out _ _ (by assumption) hg)
    | (go_at_call 21; refine (HGP.out _).mono ?_; rintro e wy ⟨rfl, hg⟩; have hSy := HK.out _ _ (by assumption) hg)
    | (go_at_call 21; refine (HGD.out _).mono ?_; rintro e wy ⟨rfl, hg⟩; have hSy := HK.out _ _ (by assumption) hg))
  all_goals
    go_wp2_with fail
    (try simp only [Exit.inBlock, Exit.then])
    exact bodyPost_ret (results_tmp4 (t := 8) (u := 9) (v := 10) (x := 11) rfl _ _ _) rfl (HFIN.out _ hSy.2.2.2)
end
end Go.Proofs.YtffilaoipcjcmaaGreat
