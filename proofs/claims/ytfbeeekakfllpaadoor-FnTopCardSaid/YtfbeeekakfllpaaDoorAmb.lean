/-
  The walk of appendMappingToBuffer: a comma where one is due, then the deltas of column, source, line and column of the original; no name. No statement of the seat is proved here.
-/
import Derived.Test.YtfbeeekakfllpaaDoorRows
import Derived.Test.YtfbeeekakfllpaaDoorEnc
import Derived.Test.YtfbeeekakfllpaaDoorReg
import Derived.Test.YtfbeeekakfllpaaDoorPq
import Derived.Test.YtfbeeekakfllpaaDoorSx
import Derived.Deep.CutBlock
import Derived.Deep.DeepCutAuto
import Derived.Deep.LoopGhost
import Derived.Deep.Light
namespace Go.Proofs.YtfbeeekakfllpaaDoor
open Go.RowKit
set_option linter.unusedVariables false
/-- a SourceMapState -/
structure St where
  gl : Int
  gc : Int
  si : Int
  ol : Int
  oc : Int
  on : Int
  hn : Bool
def St.cells (s : St) : Array Value := #[.int .i64 s.gl, .int .i64 s.gc, .int .i64 s.si, .int .i64 s.ol, .int .i64 s.oc, .int .i64 s.on, .bool s.hn]
/-- while the mapping is written: b the first of the call's own three blocks -/
structure Mb (B : Nat) (w0 : World) (v0 : Value) (b : Nat) (p c : St) (wr : World) (v : Value) (xs : List Int) : Prop where
  own : Own .u8 5 wr B v xs
  tab : Tab wr B
  gr : Gr w0 v0 wr v
  bp : Blk wr b 31 p.cells
  bc : Blk wr (b + 1) 31 c.cells
  bn : Blk wr (b + 2) 26 #[.int .u32 0]
  ne : ∀ g, v.ownBlock = some g → g < b ∨ b + 3 ≤ g
  hb : B ≤ b
theorem Mb.lt {B : Nat} {w0 : World} {v0 : Value} {b : Nat} {p c : St} {wr : World} {v : Value} {xs : List Int} (h : Mb B w0 v0 b p c wr v xs) : b + 3 ≤ wr.heap.size := h.bn.lt
theorem Mb.step {B : Nat} {w0 : World} {v0 : Value} {b : Nat} {p c : St} {wr w' : World} {v v' : Value} {xs ys : List Int} (h : Mb B w0 v0 b p c wr v xs) (ho : Own .u8 5 w' B v' ys) (hg : Gr wr v w' v') : Mb B w0 v0 b p c w' v' ys := by
  have hl := h.lt
  have hB := h.hb
  refine ⟨ho, h.tab.below (hg.below (Below.refl _ _) (by omega) (fun g hg => (h.own.lt g hg).1)), h.gr.trans hg, h.bp.gb hg.1 (fun e => ?_), h.bc.gb hg.1 (fun e => ?_), h.bn.gb hg.1 (fun e => ?_), fun g hgg => ?_, hB⟩
  · have := h.ne _ e.symm; omega
  · have := h.ne _ e.symm; omega
  · have := h.ne _ e.symm; omega
  · rcases hg.2 with e | ⟨x, e, hx⟩
    · exact h.ne g (e.symm.trans hgg)
    · rw [e] at hgg; cases hgg; omega
theorem Mb.alloc {B : Nat} {w0 : World} {v0 : Value} {b : Nat} {p c : St} {wr : World} {v : Value} {xs : List Int} (h : Mb B w0 v0 b p c wr v xs) (o : Obj) : Mb B w0 v0 b p c (wr.alloc o) v xs := by
  have hl := h.lt
  have hB := h.hb
  exact ⟨h.own.alloc o, h.tab.below ((Below.refl _ _).alloc (by omega) o), h.gr.trans ⟨World.grownBy_alloc wr o _, .inl rfl⟩, h.bp.alloc o, h.bc.alloc o, h.bn.alloc o, h.ne, hB⟩
theorem Mb.start {B : Nat} {w : World} {v : Value} {p c : St} {xs : List Int} (ht : Tab w B) (hB : B ≤ w.heap.size) (ho : Own .u8 5 w B v xs) :
    Mb B w v w.heap.size p c (((w.alloc (.cells p.cells 31)).alloc (.cells c.cells 31)).alloc (.cells #[.int .u32 0] 26)) v xs := by
  have hb : Below w.heap.size w (((w.alloc (.cells p.cells 31)).alloc (.cells c.cells 31)).alloc (.cells #[.int .u32 0] 26)) := (((Below.refl _ w).alloc (Nat.le_refl _) _).alloc (by simp) _).alloc (by simp; omega) _
  have k1 := ((Blk.new w 31 p.cells).alloc (.cells c.cells 31)).alloc (.cells #[.int .u32 0] 26)
  have k2 := (Blk.new (w.alloc (.cells p.cells 31)) 31 c.cells).alloc (.cells #[.int .u32 0] 26)
  have k3 := Blk.new ((w.alloc (.cells p.cells 31)).alloc (.cells c.cells 31)) 26 #[.int .u32 0]
  rw [show (w.alloc (.cells p.cells 31)).heap.size = w.heap.size + 1 by simp] at k2
  rw [show ((w.alloc (.cells p.cells 31)).alloc (.cells c.cells 31)).heap.size = w.heap.size + 2 by simp] at k3
  refine ⟨((ho.alloc _).alloc _).alloc _, ht.below (hb.mono hB), Gr.alloc _ (Gr.alloc _ (Gr.alloc _ (Gr.refl _ _))), k1, k2, k3, fun g hg => .inl (ho.lt g hg).2, hB⟩
/-- the cells that the walk reads -/
theorem Mb.cells {B : Nat} {w0 : World} {v0 : Value} {b : Nat} {p c : St} {wr : World} {v : Value} {xs : List Int} (h : Mb B w0 v0 b p c wr v xs) :
    (wr.cell? ⟨b, 1, none⟩ = some (.int .i64 p.gc) ∧ wr.cell? ⟨b, 2, none⟩ = some (.int .i64 p.si) ∧ wr.cell? ⟨b, 3, none⟩ = some (.int .i64 p.ol) ∧ wr.cell? ⟨b, 4, none⟩ = some (.int .i64 p.oc) ∧ wr.cell? ⟨b, 5, none⟩ = some (.int .i64 p.on)) ∧
    (wr.cell? ⟨b + 1, 1, none⟩ = some (.int .i64 c.gc) ∧ wr.cell? ⟨b + 1, 2, none⟩ = some (.int .i64 c.si) ∧ wr.cell? ⟨b + 1, 3, none⟩ = some (.int .i64 c.ol) ∧ wr.cell? ⟨b + 1, 4, none⟩ = some (.int .i64 c.oc)) ∧ wr.cell? ⟨b + 1, 5, none⟩ = some (.int .i64 c.on) ∧ wr.cell? ⟨b + 1, 6, none⟩ = some (.bool c.hn) :=
  ⟨⟨h.bp.cell 1, h.bp.cell 2, h.bp.cell 3, h.bp.cell 4, h.bp.cell 5⟩, ⟨h.bc.cell 1, h.bc.cell 2, h.bc.cell 3, h.bc.cell 4⟩, h.bc.cell 5, h.bc.cell 6⟩
theorem Mb.kept {B : Nat} {w0 : World} {v0 : Value} {b : Nat} {p c : St} {wr w' : World} {v : Value} {xs : List Int} (h : Mb B w0 v0 b p c wr v xs) (hg : wr.grownBy w' none) : Mb B w0 v0 b p c w' v xs := by
  have hl := h.lt
  have hB := h.hb
  exact ⟨h.own.gb hg (by cases v.ownBlock <;> simp), h.tab.below ((Below.refl _ _).grown hg (by omega) (fun k h => by cases h)), h.gr.trans ⟨gb_none hg, .inl rfl⟩, h.bp.gb hg (by simp), h.bc.gb hg (by simp), h.bn.gb hg (by simp), h.ne, hB⟩
/-- another block of the call's own is turned -/
theorem Mb.setn {B : Nat} {w0 : World} {v0 : Value} {b : Nat} {p c : St} {wr : World} {v : Value} {xs : List Int} (h : Mb B w0 v0 b p c wr v xs) (nb : Nat) (hnb : b + 3 ≤ nb) (hv : v.ownBlock ≠ some nb) (hw : w0.heap.size ≤ nb) (x : Value) : Mb B w0 v0 b p c (wr.setCell ⟨nb, 0, none⟩ x) v xs := by
  have hl := h.lt
  have hB := h.hb
  have hg : wr.grownBy (wr.setCell ⟨nb, 0, none⟩ x) (some nb) := gb_set (gb_refl _ _) 0 none _
  refine ⟨h.own.gb hg (.inr hv), h.tab.below (below_gb (Below.refl _ _) hg (by omega) (by omega)), ⟨⟨h.gr.1.os, h.gr.1.tape, h.gr.1.output, Nat.le_trans h.gr.1.size hg.size, fun i hi hne => ?_⟩, h.gr.2⟩, h.bp.gb hg (fun e => by cases e; omega), h.bc.gb hg (fun e => by cases e; omega), h.bn.gb hg (fun e => by cases e; omega), h.ne, hB⟩
  have hs := h.gr.1.size
  exact (hg.block i (by omega) (fun e => by cases e; omega)).trans (h.gr.1.block i hi hne)
theorem Mb.fin {B : Nat} {w : World} {v0 : Value} {b : Nat} {p c : St} {wr : World} {v : Value} {xs : List Int} (h : Mb B w v0 b p c wr v xs) (hb : w.heap.size = b) (x : Int) :
    Own .u8 5 (wr.setCell ⟨b + 1 + 1, 0, none⟩ (.int .u32 x)).drew B v xs ∧ Gr w v0 (wr.setCell ⟨b + 1 + 1, 0, none⟩ (.int .u32 x)).drew v ∧ Tab (wr.setCell ⟨b + 1 + 1, 0, none⟩ (.int .u32 x)).drew B ∧ (wr.setCell ⟨b + 1 + 1, 0, none⟩ (.int .u32 x)).drew.cell? ⟨b + 1 + 1, 0, none⟩ = some (.int .u32 x) := by
  have hl := h.lt
  have hB := h.hb
  have hg : wr.grownBy (wr.setCell ⟨b + 1 + 1, 0, none⟩ (.int .u32 x)) (some (b + 1 + 1)) := gb_set (gb_refl _ _) 0 none _
  refine ⟨Own.drew (h.own.gb hg ?_), ⟨⟨h.gr.1.os, h.gr.1.tape, h.gr.1.output, Nat.le_trans h.gr.1.size hg.size, fun i hi hne => ?_⟩, h.gr.2⟩, (h.tab.below (below_gb (Below.refl _ _) hg (by omega) (by omega))).below ((Below.refl _ _).drew), (h.bn.set 0 (.int .u32 x)).cell 0⟩
  · rcases hx : v.ownBlock with _ | x
    · exact .inl rfl
    · exact .inr (fun e => by cases e; have := h.ne _ hx; omega)
  · exact (hg.block i (by omega) (fun e => by cases e; omega)).trans (h.gr.1.block i hi hne)
def CmO (lb : Int) (W : World) (x : Value) (wc : World) : Prop := ∃ o : Bool, x = .bool o ∧ (o = true → cm lb = [44]) ∧ (o = false → cm lb = []) ∧ wc = W
/-- the deltas that are written -/
def St.ds (p c : St) : List Int := [c.gc - p.gc, c.si - p.si, c.ol - p.ol, c.oc - p.oc] ++ (if c.hn then [c.on - p.on] else [])
/-- where the name's delta begins, as an index -/
def nof (hn : Bool) (n : Nat) : Int := if hn then 4294967295 - (n : Int) else 0
def IsMap (B : Nat) (v : Value) (xs : List Int) (lb : Int) (p c : St) (w : World) (e : Ending) (w' : World) : Prop :=
  ∃ v', e = .returned (.tuple #[v', .agg #[.int .u32 (nof c.hn (xs ++ (cm lb ++ encs [c.gc - p.gc, c.si - p.si, c.ol - p.ol, c.oc - p.oc])).length)]]) ∧ Own .u8 5 w' B v' (xs ++ (cm lb ++ encs (St.ds p c))) ∧ Gr w v w' v' ∧ Tab w' B
set_option maxRecDepth 100000 in
set_option maxHeartbeats 4000000 in
theorem amb_any (B : Nat) (v : Value) (xs : List Int) (lb : Int) (p c : St) (w : World) (ht : Tab w B) (hB : B ≤ w.heap.size) (hown : Own .u8 5 w B v xs) (hlb : lb = 0 ∨ lb = 59 ∨ B64 lb)
    (h1 : Bnd (c.gc - p.gc)) (h2 : Bnd (c.si - p.si)) (h3 : Bnd (c.ol - p.ol)) (h4 : Bnd (c.oc - p.oc)) (h5 : Bnd (c.on - p.on)) (hl : xs.length ≤ 1073741000) :
    Calls Tryd.prog 37 #[v, .int .u8 lb, .agg p.cells, .agg c.cells, .bool false] w (IsMap B v xs lb p c w) := by
  have HM := Lib.hid (Mb.start (p := p) (c := c) ht hB hown)
  clear ht hown
  obtain ⟨pgl, pgc, psi, pol, poc, pon, phn⟩ := p
  obtain ⟨cgl, cgc, csi, col, coc, con, chn⟩ := c
  simp only [Bnd, St.cells] at h1 h2 h3 h4 h5 HM ⊢
  go_enter Tryd.func37, Tryd.ntmps37
  go_upto_region 1 with fail
  obtain ⟨W, hW⟩ : ∃ W, (((w.alloc (.cells #[.int .i64 pgl, .int .i64 pgc, .int .i64 psi, .int .i64 pol, .int .i64 poc, .int .i64 pon, .bool phn] 31)).alloc (.cells #[.int .i64 cgl, .int .i64 cgc, .int .i64 csi, .int .i64 col, .int .i64 coc, .int .i64 con, .bool chn] 31)).alloc (.cells #[.int .u32 0] 26)) = W := ⟨_, rfl⟩
  have HM1 : Hid (Mb B w v w.heap.size ⟨pgl, pgc, psi, pol, poc, pon, phn⟩ ⟨cgl, cgc, csi, col, coc, con, chn⟩ W v xs) := Lib.hid (by rw [← hW]; exact HM.out)
  rw [hW]
  clear hW HM
  obtain ⟨b, hb⟩ : ∃ b, w.heap.size = b := ⟨_, rfl⟩
  rw [hb] at HM1 hB ⊢
  have HBB := Lib.hid hb
  clear hb
  obtain ⟨h1, h1'⟩ := h1
  obtain ⟨h2, h2'⟩ := h2
  obtain ⟨h3, h3'⟩ := h3
  obtain ⟨h4, h4'⟩ := h4
  obtain ⟨h5, h5'⟩ := h5
  go_cut [22] (fun x wc => CmO lb W x wc)
  case first =>
    rcases hlb with rfl | rfl | ⟨q1, q2, q3, q4⟩
    · go_wp2_with fail
      go_meet
      exact ⟨false, rfl, fun h => (by cases h), fun _ => rfl, rfl⟩
    · go_wp2_with fail
      go_meet
      exact ⟨false, rfl, fun h => (by cases h), fun _ => rfl, rfl⟩
    · have f0 : (lb != 0) = true := bne_iff_ne.2 (by omega)
      have f1 : (lb != 59) = true := bne_iff_ne.2 q4
      have f2 : (lb != 34) = true := bne_iff_ne.2 (by omega)
      have e0 : (lb == 0) = false := beq_eq_false_iff_ne.2 (by omega)
      have e1 : (lb == 59) = false := beq_eq_false_iff_ne.2 q4
      have e2 : (lb == 34) = false := beq_eq_false_iff_ne.2 (by omega)
      have HC : Hid (cm lb = [44]) := Lib.hid (by rw [cm, if_neg (by omega)])
      go_wp2_with fail
      go_meet
      exact ⟨true, rfl, fun _ => HC.out, fun h => (by cases h), rfl⟩
  case rest =>
  obtain ⟨o, rfl, ho1, ho2, hcw⟩ := hcut
  have hcw1 := hcw.symm
  subst hcw1
  have HO := Lib.hid (And.intro ho1 ho2)
  clear ho1 ho2 hcw hlb
  go_upto_if 22 with fail
  go_cut [0] (fun x wc => Mb B w v b ⟨pgl, pgc, psi, pol, poc, pon, phn⟩ ⟨cgl, cgc, csi, col, coc, con, chn⟩ wc x (xs ++ cm lb))
  case first =>
    have hbz := HM1.out.lt
    cases o
    · go_wp2_with fail
      go_meet
      have HO2 := HO.out
      simp at HO2
      rw [HO2, List.append_nil]; exact HM1.out
    · go_wp2_with (at_builtin; refine wpList_push W rfl (.tmp 23) (.tmp 24) 22 rfl B 5 .u8 1 Tryd.underlying22 copyB_info v xs _ rfl HM1.out.own rfl (by unfold maxLen; omega) (by omega) (by omega) ?_; intro v1 w1 ho1 hg1 hn1; have HM2 := Lib.hid (HM1.out.step ho1 hg1); clear ho1 hg1 hn1)
      go_meet
      have HO2 := HO.out
      simp at HO2
      rw [HO2]; exact HM2.out
  case rest =>
    have HM2 := Lib.hid hcut
    clear hcut HM1
    obtain ⟨ys, hys⟩ : ∃ ys, xs ++ cm lb = ys := ⟨_, rfl⟩
    have hyl : ys.length ≤ 1073741001 := by rw [← hys, List.length_append, cm]; split <;> simp <;> omega
    rw [hys] at HM2
    have HY := Lib.hid hys
    clear hys
    have hb1 := HM2.out.lt
    obtain ⟨⟨p1, p2, p3, p4, p5⟩, ⟨c1, c2, c3, c4⟩, c5, c6⟩ := HM2.out.cells
    go_upto_region 4 with (go_at_call 42; refine (enc_any B u0 ys (cgc - pgc) wc HM2.out.tab (by omega) HM2.out.own h1 h1' (by omega)).mono ?_; rintro e w1 ⟨v1, rfl, ho1, hg1, hn1⟩; have HM3 := Lib.hid (HM2.out.step ho1 hg1); clear ho1 hg1 hn1 p1 p2 p3 p4 p5 c1 c2 c3 c4 c5 c6)
    obtain ⟨⟨p1, p2, p3, p4, p5⟩, ⟨c1, c2, c3, c4⟩, c5, c6⟩ := HM3.out.cells
    have hz1 := HM3.out.lt
    have hl1 : (ys ++ enc (cgc - pgc)).length ≤ 1073741008 := by rw [List.length_append]; have := (enc_len (cgc - pgc)).2; omega
    go_upto_region 6 with (go_at_call 42; refine (enc_any B v1 (ys ++ enc (cgc - pgc)) (csi - psi) w1 HM3.out.tab (by have := HM3.out.hb; omega) HM3.out.own h2 h2' (by omega)).mono ?_; rintro e w2 ⟨v2, rfl, ho1, hg1, hn1⟩; have HM4 := Lib.hid (HM3.out.step ho1 hg1); clear ho1 hg1 hn1 p1 p2 p3 p4 p5 c1 c2 c3 c4 c5 c6)
    obtain ⟨⟨p1, p2, p3, p4, p5⟩, ⟨c1, c2, c3, c4⟩, c5, c6⟩ := HM4.out.cells
    have hz2 := HM4.out.lt
    have hl2 : ((ys ++ enc (cgc - pgc)) ++ enc (csi - psi)).length ≤ 1073741015 := by rw [List.length_append]; have := (enc_len (csi - psi)).2; omega
    go_upto_region 7 with (go_at_call 42; refine (enc_any B v2 ((ys ++ enc (cgc - pgc)) ++ enc (csi - psi)) (col - pol) w2 HM4.out.tab (by have := HM4.out.hb; omega) HM4.out.own h3 h3' (by omega)).mono ?_; rintro e w3 ⟨v3, rfl, ho1, hg1, hn1⟩; have HM5 := Lib.hid (HM4.out.step ho1 hg1); clear ho1 hg1 hn1 p1 p2 p3 p4 p5 c1 c2 c3 c4 c5 c6)
    obtain ⟨⟨p1, p2, p3, p4, p5⟩, ⟨c1, c2, c3, c4⟩, c5, c6⟩ := HM5.out.cells
    have hz3 := HM5.out.lt
    have hl3 : (((ys ++ enc (cgc - pgc)) ++ enc (csi - psi)) ++ enc (col - pol)).length ≤ 1073741022 := by rw [List.length_append]; have := (enc_len (col - pol)).2; omega
    go_upto_region 8 with (go_at_call 42; refine (enc_any B v3 (((ys ++ enc (cgc - pgc)) ++ enc (csi - psi)) ++ enc (col - pol)) (coc - poc) w3 HM5.out.tab (by have := HM5.out.hb; omega) HM5.out.own h4 h4' (by omega)).mono ?_; rintro e w4 ⟨v4, rfl, ho1, hg1, hn1⟩; have HM6 := Lib.hid (HM5.out.step ho1 hg1); clear ho1 hg1 hn1 p1 p2 p3 p4 p5 c1 c2 c3 c4 c5 c6)
    have hz4 := HM6.out.lt
    go_upto_region 9 with fail
    have HM7 := Lib.hid (HM6.out.alloc (.cells #[.int .u32 0] 26))
    have hnb := Blk.new w4 26 #[.int .u32 0]
    obtain ⟨w5, hw5⟩ : ∃ w5, w4.alloc (.cells #[.int .u32 0] 26) = w5 := ⟨_, rfl⟩
    rw [hw5] at HM7 hnb ⊢
    clear hw5
    have hz5 := HM7.out.lt
    obtain ⟨⟨_, _, _, _, p5⟩, _, c5, c6⟩ := HM7.out.cells
    have hl4 : ((((ys ++ enc (cgc - pgc)) ++ enc (csi - psi)) ++ enc (col - pol)) ++ enc (coc - poc)).length ≤ 1073741029 := by rw [List.length_append]; have := (enc_len (coc - poc)).2; omega
    obtain ⟨zs, hzs⟩ : ∃ zs, ((((ys ++ enc (cgc - pgc)) ++ enc (csi - psi)) ++ enc (col - pol)) ++ enc (coc - poc)) = zs := ⟨_, rfl⟩
    rw [hzs] at HM7 hl4
    have HZ : Hid (zs = xs ++ (cm lb ++ encs [cgc - pgc, csi - psi, col - pol, coc - poc])) := Lib.hid (by rw [← hzs, ← HY.out]; simp [encs])
    have hv4 : v4.ownBlock ≠ some w4.heap.size := fun e => by have := (HM6.out.own.lt _ e).2; omega
    obtain ⟨nb, hnbe⟩ : ∃ nb, w4.heap.size = nb := ⟨_, rfl⟩
    rw [hnbe] at hz4 hv4 hnb ⊢
    have HNB := Lib.hid (And.intro hnb (And.intro hv4 (And.intro hz4 hnbe)))
    clear hnbe hnb hv4 hzs HM6 HM5 HM4 HM3 HM2
    cases chn with
    | false =>
      have n0 := HM7.out.bn.cell 0
      have nf := HM7.out.bn.free 0
      have m0 := HNB.out.1.cell 0
      clear c5 p5
      go_wp2_with fail
      go_region
      all_goals
        go_wp2_with fail
        have hfin := HM7.out.fin HBB.out 0
        have hr0 := hfin.2.2.2
        refine bodyPost_ret (v := .tuple #[v4, .agg #[.int .u32 0]]) (by simp [results, Tryd.results37, go_sem, hr0]) rfl ⟨v4, rfl, ?_, hfin.2.1, hfin.2.2.1⟩
        rw [show St.ds ⟨pgl, pgc, psi, pol, poc, pon, phn⟩ ⟨cgl, cgc, csi, col, coc, con, false⟩ = [cgc - pgc, csi - psi, col - pol, coc - poc] from rfl, ← HZ.out]
        exact hfin.1
    | true =>
      obtain ⟨n, hn⟩ : ∃ n, zs.length = n := ⟨_, rfl⟩
      obtain ⟨ao, cap, hv, _⟩ := HM7.out.own.form
      rw [hn] at hv hl4
      have HV := Lib.hid (And.intro hv hn)
      have wn : IntKind.u32.wrap (n : Int) = (n : Int) := by rw [IntKind.wrap_u32]; omega
      have HMK := Lib.hid (fun w => mk_any (n : Int) (by omega) (by omega) w)
      rw [hv]
      clear hn hv c5 p5
      go_upto_region 11 with (go_at_call 43; refine (HMK.out _).mono ?_; rintro e w6 ⟨rfl, hg6⟩; have H8 := Lib.hid (And.intro (HM7.out.kept hg6) (HNB.out.1.gb hg6 (by simp))); have k0 := H8.out.2.cell 0; have f0 := H8.out.2.free 0; have l0 := H8.out.2.lt; clear hg6)
      clear wn HMK k0 f0 l0
      have H9 : Hid (Mb B w v b ⟨pgl, pgc, psi, pol, poc, pon, phn⟩ ⟨cgl, cgc, csi, col, coc, con, true⟩ (w6.setCell ⟨nb, 0, none⟩ (.int .u32 (4294967295 - (n : Int)))) v4 zs ∧ Blk (w6.setCell ⟨nb, 0, none⟩ (.int .u32 (4294967295 - (n : Int)))) nb 26 #[.int .u32 (4294967295 - (n : Int))]) := Lib.hid (by
        refine ⟨H8.out.1.setn nb HNB.out.2.2.1 HNB.out.2.1 (by rw [HBB.out]; have := HNB.out.2.2.1; omega) _, ?_⟩
        have := H8.out.2.set 0 (.int .u32 (4294967295 - (n : Int)))
        simpa using this)
      generalize w6.setCell ⟨nb, 0, none⟩ (.int .u32 (4294967295 - (n : Int))) = w7 at H9 ⊢
      obtain ⟨⟨_, _, _, _, p5⟩, _, c5, _⟩ := H9.out.1.cells
      have hz7 := H9.out.1.lt
      have HE := Lib.hid (enc_any B v4 zs (con - pon) w7 H9.out.1.tab (by have := H9.out.1.hb; omega) H9.out.1.own h5 h5' (by rw [HV.out.2]; omega))
      rw [HV.out.1] at HE
      go_upto_region 12 with (go_at_call 42; refine HE.out.mono ?_; rintro e w8 ⟨v5, rfl, ho1, hg1, hn1⟩; rw [← HV.out.1] at hg1; have H10 := Lib.hid (And.intro (H9.out.1.step ho1 hg1) (H9.out.2.gb hg1.1 (fun e => HNB.out.2.1 e.symm))); clear ho1 hg1 hn1)
      clear p5 c5 hz7
      have n0 := H10.out.1.bn.cell 0
      have nf := H10.out.1.bn.free 0
      have m0 := H10.out.2.cell 0
      have hz8 := H10.out.1.lt
      have hz9 := H10.out.2.lt
      go_region
      all_goals
        go_wp2_with fail
        have hfin := H10.out.1.fin HBB.out (4294967295 - (n : Int))
        have hr0 := hfin.2.2.2
        refine bodyPost_ret (v := .tuple #[v5, .agg #[.int .u32 (4294967295 - (n : Int))]]) (by simp [results, Tryd.results37, go_sem, hr0]) rfl ⟨v5, ?_, ?_, hfin.2.1, hfin.2.2.1⟩
        · show _ = Ending.returned (.tuple #[v5, .agg #[.int .u32 (nof true (xs ++ (cm lb ++ encs [cgc - pgc, csi - psi, col - pol, coc - poc])).length)]])
          rw [← HZ.out, HV.out.2]; rfl
        · rw [show St.ds ⟨pgl, pgc, psi, pol, poc, pon, phn⟩ ⟨cgl, cgc, csi, col, coc, con, true⟩ = [cgc - pgc, csi - psi, col - pol, coc - poc] ++ [con - pon] from rfl, encs_app, ← List.append_assoc (cm lb), ← List.append_assoc xs, ← HZ.out]
          rw [show encs [con - pon] = enc (con - pon) by simp [encs]]
          exact hfin.1
end Go.Proofs.YtfbeeekakfllpaaDoor
