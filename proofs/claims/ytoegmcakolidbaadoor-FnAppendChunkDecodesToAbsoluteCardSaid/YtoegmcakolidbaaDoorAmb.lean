/-
  The walk of appendMappingToBuffer: a comma where one is due, then the deltas of column, source, line and column of the original; no name. No statement of the seat is proved here.
-/
import Derived.Test.YtoegmcakolidbaaDoorRows
import Derived.Test.YtoegmcakolidbaaDoorEnc
import Derived.Test.YtoegmcakolidbaaDoorReg
import Derived.Test.YtoegmcakolidbaaDoorCq
import Derived.Deep.CutBlock
import Derived.Deep.DeepCutAuto
import Derived.Deep.LoopGhost
import Derived.Deep.Light
namespace Go.Proofs.YtoegmcakolidbaaDoor
open Go.RowKit
set_option linter.unusedVariables false
/-- a SourceMapState without a name -/
structure St where
  gl : Int
  gc : Int
  si : Int
  ol : Int
  oc : Int
  on : Int
def St.cells (s : St) : Array Value := #[.int .i64 s.gl, .int .i64 s.gc, .int .i64 s.si, .int .i64 s.ol, .int .i64 s.oc, .int .i64 s.on, .bool false]
/-- while the mapping is written: b the first of the call's own three blocks -/
structure Mb (B : Nat) (w0 : World) (v0 : Value) (b : Nat) (p c : St) (wr : World) (v : Value) (xs : List Int) : Prop where
  own : Own .u8 5 wr B v xs
  tab : Tab wr B
  gr : Gr w0 v0 wr v
  bp : Blk wr b 42 p.cells
  bc : Blk wr (b + 1) 42 c.cells
  bn : Blk wr (b + 2) 45 #[.int .u32 0]
  ne : ∀ g, v.ownBlock = some g → g < b ∨ b + 3 ≤ g
  hb : B ≤ b
theorem Mb.lt {B : Nat} {w0 : World} {v0 : Value} {b : Nat} {p c : St} {wr : World} {v : Value} {xs : List Int} (h : Mb B w0 v0 b p c wr v xs) : b + 3 ≤ wr.heap.size := h.bn.lt
theorem Mb.step {B : Nat} {w0 : World} {v0 : Value} {b : Nat} {p c : St} {wr w' : World} {v v' : Value} {xs ys : List Int} (h : Mb B w0 v0 b p c wr v xs) (ho : Own .u8 5 w' B v' ys) (hg : Gr wr v w' v') : Mb B w0 v0 b p c w' v' ys := by
  have hl := h.lt
  have hB := h.hb
  refine ⟨ho, h.tab.below (hg.below (Below.refl _ _) (by omega) (fun g hg => (h.own.lt g hg).1)), h.gr.trans hg, h.bp.gb hg.1 (fun e => ?_), h.bc.gb hg.1 (fun e => ?_), h.bn.gb hg.1 (fun e => ?_), fun g hgg => ?_, hB⟩
  · have := h.ne _ e.symm; omega
  · have := h.ne _ e.symm; omega
  · have := h.ne _ e.symm; omega
  · rcases hg.2 with e | ⟨x, e, hx⟩
    · exact h.ne g (e.symm.trans hgg)
    · rw [e] at hgg; cases hgg; omega
theorem Mb.alloc {B : Nat} {w0 : World} {v0 : Value} {b : Nat} {p c : St} {wr : World} {v : Value} {xs : List Int} (h : Mb B w0 v0 b p c wr v xs) (o : Obj) : Mb B w0 v0 b p c (wr.alloc o) v xs := by
  have hl := h.lt
  have hB := h.hb
  exact ⟨h.own.alloc o, h.tab.below ((Below.refl _ _).alloc (by omega) o), h.gr.trans ⟨World.grownBy_alloc wr o _, .inl rfl⟩, h.bp.alloc o, h.bc.alloc o, h.bn.alloc o, h.ne, hB⟩
theorem Mb.start {B : Nat} {w : World} {v : Value} {p c : St} {xs : List Int} (ht : Tab w B) (hB : B ≤ w.heap.size) (ho : Own .u8 5 w B v xs) :
    Mb B w v w.heap.size p c (((w.alloc (.cells p.cells 42)).alloc (.cells c.cells 42)).alloc (.cells #[.int .u32 0] 45)) v xs := by
  have hb : Below w.heap.size w (((w.alloc (.cells p.cells 42)).alloc (.cells c.cells 42)).alloc (.cells #[.int .u32 0] 45)) := (((Below.refl _ w).alloc (Nat.le_refl _) _).alloc (by simp) _).alloc (by simp; omega) _
  have k1 := ((Blk.new w 42 p.cells).alloc (.cells c.cells 42)).alloc (.cells #[.int .u32 0] 45)
  have k2 := (Blk.new (w.alloc (.cells p.cells 42)) 42 c.cells).alloc (.cells #[.int .u32 0] 45)
  have k3 := Blk.new ((w.alloc (.cells p.cells 42)).alloc (.cells c.cells 42)) 45 #[.int .u32 0]
  rw [show (w.alloc (.cells p.cells 42)).heap.size = w.heap.size + 1 by simp] at k2
  rw [show ((w.alloc (.cells p.cells 42)).alloc (.cells c.cells 42)).heap.size = w.heap.size + 2 by simp] at k3
  refine ⟨((ho.alloc _).alloc _).alloc _, ht.below (hb.mono hB), Gr.alloc _ (Gr.alloc _ (Gr.alloc _ (Gr.refl _ _))), k1, k2, k3, fun g hg => .inl (ho.lt g hg).2, hB⟩
/-- the cells that the walk reads -/
theorem Mb.cells {B : Nat} {w0 : World} {v0 : Value} {b : Nat} {p c : St} {wr : World} {v : Value} {xs : List Int} (h : Mb B w0 v0 b p c wr v xs) :
    (wr.cell? ⟨b, 1, none⟩ = some (.int .i64 p.gc) ∧ wr.cell? ⟨b, 2, none⟩ = some (.int .i64 p.si) ∧ wr.cell? ⟨b, 3, none⟩ = some (.int .i64 p.ol) ∧ wr.cell? ⟨b, 4, none⟩ = some (.int .i64 p.oc)) ∧
    (wr.cell? ⟨b + 1, 1, none⟩ = some (.int .i64 c.gc) ∧ wr.cell? ⟨b + 1, 2, none⟩ = some (.int .i64 c.si) ∧ wr.cell? ⟨b + 1, 3, none⟩ = some (.int .i64 c.ol) ∧ wr.cell? ⟨b + 1, 4, none⟩ = some (.int .i64 c.oc)) ∧ wr.cell? ⟨b + 1, 6, none⟩ = some (.bool false) :=
  ⟨⟨h.bp.cell 1, h.bp.cell 2, h.bp.cell 3, h.bp.cell 4⟩, ⟨h.bc.cell 1, h.bc.cell 2, h.bc.cell 3, h.bc.cell 4⟩, h.bc.cell 6⟩
theorem Mb.fin {B : Nat} {w : World} {v0 : Value} {b : Nat} {p c : St} {wr : World} {v : Value} {xs : List Int} (h : Mb B w v0 b p c wr v xs) (hb : w.heap.size = b) :
    Own .u8 5 (wr.setCell ⟨b + 1 + 1, 0, none⟩ (.int .u32 0)).drew B v xs ∧ Gr w v0 (wr.setCell ⟨b + 1 + 1, 0, none⟩ (.int .u32 0)).drew v ∧ Tab (wr.setCell ⟨b + 1 + 1, 0, none⟩ (.int .u32 0)).drew B ∧ (wr.setCell ⟨b + 1 + 1, 0, none⟩ (.int .u32 0)).drew.cell? ⟨b + 1 + 1, 0, none⟩ = some (.int .u32 0) := by
  have hl := h.lt
  have hB := h.hb
  have hg : wr.grownBy (wr.setCell ⟨b + 1 + 1, 0, none⟩ (.int .u32 0)) (some (b + 1 + 1)) := gb_set (gb_refl _ _) 0 none _
  refine ⟨Own.drew (h.own.gb hg ?_), ⟨⟨h.gr.1.os, h.gr.1.tape, h.gr.1.output, Nat.le_trans h.gr.1.size hg.size, fun i hi hne => ?_⟩, h.gr.2⟩, (h.tab.below (below_gb (Below.refl _ _) hg (by omega) (by omega))).below ((Below.refl _ _).drew), (h.bn.set 0 (.int .u32 0)).cell 0⟩
  · rcases hx : v.ownBlock with _ | x
    · exact .inl rfl
    · exact .inr (fun e => by cases e; have := h.ne _ hx; omega)
  · exact (hg.block i (by omega) (fun e => by cases e; omega)).trans (h.gr.1.block i hi hne)
/-- the comma that is due behind the byte lb -/
def cmq (lb : Int) : List Int := if lb = 0 ∨ lb = 59 ∨ lb = 34 then [] else [44]
def CmO (lb : Int) (W : World) (x : Value) (wc : World) : Prop := ∃ o : Bool, x = .bool o ∧ (o = true → cmq lb = [44]) ∧ (o = false → cmq lb = []) ∧ wc = W
def IsMap (B : Nat) (v : Value) (xs : List Int) (lb : Int) (p c : St) (w : World) (e : Ending) (w' : World) : Prop :=
  ∃ v', e = .returned (.tuple #[v', .agg #[.int .u32 0]]) ∧ Own .u8 5 w' B v' (xs ++ (cmq lb ++ encs (c.gc - p.gc) (c.si - p.si) (c.ol - p.ol) (c.oc - p.oc))) ∧ Gr w v w' v' ∧ Tab w' B
set_option maxRecDepth 100000 in
set_option maxHeartbeats 4000000 in
theorem amb_any (B : Nat) (v : Value) (xs : List Int) (lb : Int) (p c : St) (w : World) (ht : Tab w B) (hB : B ≤ w.heap.size) (hown : Own .u8 5 w B v xs)
    (h1 : Bnd (c.gc - p.gc)) (h2 : Bnd (c.si - p.si)) (h3 : Bnd (c.ol - p.ol)) (h4 : Bnd (c.oc - p.oc)) (hl : xs.length ≤ 1073741000) :
    Calls Tryd.prog 21 #[v, .int .u8 lb, .agg p.cells, .agg c.cells, .bool false] w (IsMap B v xs lb p c w) := by
  have HM := Lib.hid (Mb.start (p := p) (c := c) ht hB hown)
  clear ht hown
  obtain ⟨pgl, pgc, psi, pol, poc, pon⟩ := p
  obtain ⟨cgl, cgc, csi, col, coc, con⟩ := c
  simp only [Bnd, St.cells] at h1 h2 h3 h4 HM ⊢
  go_enter Tryd.func21, Tryd.ntmps21
  go_upto_region 1 with fail
  obtain ⟨W, hW⟩ : ∃ W, (((w.alloc (.cells #[.int .i64 pgl, .int .i64 pgc, .int .i64 psi, .int .i64 pol, .int .i64 poc, .int .i64 pon, .bool false] 42)).alloc (.cells #[.int .i64 cgl, .int .i64 cgc, .int .i64 csi, .int .i64 col, .int .i64 coc, .int .i64 con, .bool false] 42)).alloc (.cells #[.int .u32 0] 45)) = W := ⟨_, rfl⟩
  have HM1 : Hid (Mb B w v w.heap.size ⟨pgl, pgc, psi, pol, poc, pon⟩ ⟨cgl, cgc, csi, col, coc, con⟩ W v xs) := Lib.hid (by rw [← hW]; exact HM.out)
  rw [hW]
  clear hW HM
  obtain ⟨b, hb⟩ : ∃ b, w.heap.size = b := ⟨_, rfl⟩
  rw [hb] at HM1 hB ⊢
  have HBB := Lib.hid hb
  clear hb
  obtain ⟨h1, h1'⟩ := h1
  obtain ⟨h2, h2'⟩ := h2
  obtain ⟨h3, h3'⟩ := h3
  obtain ⟨h4, h4'⟩ := h4
  go_cut [22] (fun x wc => CmO lb W x wc)
  case first =>
    rcases (show lb = 0 ∨ lb = 59 ∨ lb = 34 ∨ (lb ≠ 0 ∧ lb ≠ 59 ∧ lb ≠ 34) by omega) with rfl | rfl | rfl | ⟨q1, q2, q3⟩
    · go_wp2_with fail
      go_meet
      exact ⟨false, rfl, fun h => (by cases h), fun _ => rfl, rfl⟩
    · go_wp2_with fail
      go_meet
      exact ⟨false, rfl, fun h => (by cases h), fun _ => rfl, rfl⟩
    · go_wp2_with fail
      go_meet
      exact ⟨false, rfl, fun h => (by cases h), fun _ => rfl, rfl⟩
    · have f0 : (lb != 0) = true := bne_iff_ne.2 q1
      have f1 : (lb != 59) = true := bne_iff_ne.2 q2
      have f2 : (lb != 34) = true := bne_iff_ne.2 q3
      have e0 : (lb == 0) = false := beq_eq_false_iff_ne.2 q1
      have e1 : (lb == 59) = false := beq_eq_false_iff_ne.2 q2
      have e2 : (lb == 34) = false := beq_eq_false_iff_ne.2 q3
      have HC : Hid (cmq lb = [44]) := Lib.hid (by rw [cmq, if_neg (by rintro (h | h | h) <;> contradiction)])
      go_wp2_with fail
      go_meet
      exact ⟨true, rfl, fun _ => HC.out, fun h => (by cases h), rfl⟩
  case rest =>
  obtain ⟨o, rfl, ho1, ho2, hcw⟩ := hcut
  have hcw1 := hcw.symm
  subst hcw1
  have HO := Lib.hid (And.intro ho1 ho2)
  clear ho1 ho2 hcw
  go_upto_if 22 with fail
  go_cut [0] (fun x wc => Mb B w v b ⟨pgl, pgc, psi, pol, poc, pon⟩ ⟨cgl, cgc, csi, col, coc, con⟩ wc x (xs ++ cmq lb))
  case first =>
    have hbz := HM1.out.lt
    cases o
    · go_wp2_with fail
      go_meet
      have HO2 := HO.out
      simp at HO2
      rw [HO2, List.append_nil]; exact HM1.out
    · go_wp2_with (at_builtin; refine wpList_push W rfl (.tmp 23) (.tmp 24) 22 rfl B 5 .u8 1 Tryd.underlying22 copyB_info v xs _ rfl HM1.out.own rfl (by unfold maxLen; omega) (by omega) (by omega) ?_; intro v1 w1 ho1 hg1 hn1; have HM2 := Lib.hid (HM1.out.step ho1 hg1); clear ho1 hg1 hn1)
      go_meet
      have HO2 := HO.out
      simp at HO2
      rw [HO2]; exact HM2.out
  case rest =>
    have HM2 := Lib.hid hcut
    clear hcut HM1
    obtain ⟨ys, hys⟩ : ∃ ys, xs ++ cmq lb = ys := ⟨_, rfl⟩
    have hyl : ys.length ≤ 1073741001 := by rw [← hys, List.length_append, cmq]; split <;> simp <;> omega
    rw [hys] at HM2
    have HY := Lib.hid hys
    clear hys
    have hb1 := HM2.out.lt
    obtain ⟨⟨p1, p2, p3, p4⟩, ⟨c1, c2, c3, c4⟩, c6⟩ := HM2.out.cells
    go_upto_region 4 with (go_at_call 25; refine (enc_any B u0 ys (cgc - pgc) wc HM2.out.tab (by omega) HM2.out.own h1 h1' (by omega)).mono ?_; rintro e w1 ⟨v1, rfl, ho1, hg1, hn1⟩; have HM3 := Lib.hid (HM2.out.step ho1 hg1); clear ho1 hg1 hn1 p1 p2 p3 p4 c1 c2 c3 c4 c6)
    obtain ⟨⟨p1, p2, p3, p4⟩, ⟨c1, c2, c3, c4⟩, c6⟩ := HM3.out.cells
    have hz1 := HM3.out.lt
    have hl1 : (ys ++ enc (cgc - pgc)).length ≤ 1073741008 := by rw [List.length_append]; have := (enc_len (cgc - pgc)).2; omega
    go_upto_region 6 with (go_at_call 25; refine (enc_any B v1 (ys ++ enc (cgc - pgc)) (csi - psi) w1 HM3.out.tab (by have := HM3.out.hb; omega) HM3.out.own h2 h2' (by omega)).mono ?_; rintro e w2 ⟨v2, rfl, ho1, hg1, hn1⟩; have HM4 := Lib.hid (HM3.out.step ho1 hg1); clear ho1 hg1 hn1 p1 p2 p3 p4 c1 c2 c3 c4 c6)
    obtain ⟨⟨p1, p2, p3, p4⟩, ⟨c1, c2, c3, c4⟩, c6⟩ := HM4.out.cells
    have hz2 := HM4.out.lt
    have hl2 : ((ys ++ enc (cgc - pgc)) ++ enc (csi - psi)).length ≤ 1073741015 := by rw [List.length_append]; have := (enc_len (csi - psi)).2; omega
    go_upto_region 7 with (go_at_call 25; refine (enc_any B v2 ((ys ++ enc (cgc - pgc)) ++ enc (csi - psi)) (col - pol) w2 HM4.out.tab (by have := HM4.out.hb; omega) HM4.out.own h3 h3' (by omega)).mono ?_; rintro e w3 ⟨v3, rfl, ho1, hg1, hn1⟩; have HM5 := Lib.hid (HM4.out.step ho1 hg1); clear ho1 hg1 hn1 p1 p2 p3 p4 c1 c2 c3 c4 c6)
    obtain ⟨⟨p1, p2, p3, p4⟩, ⟨c1, c2, c3, c4⟩, c6⟩ := HM5.out.cells
    have hz3 := HM5.out.lt
    have hl3 : (((ys ++ enc (cgc - pgc)) ++ enc (csi - psi)) ++ enc (col - pol)).length ≤ 1073741022 := by rw [List.length_append]; have := (enc_len (col - pol)).2; omega
    go_upto_region 8 with (go_at_call 25; refine (enc_any B v3 (((ys ++ enc (cgc - pgc)) ++ enc (csi - psi)) ++ enc (col - pol)) (coc - poc) w3 HM5.out.tab (by have := HM5.out.hb; omega) HM5.out.own h4 h4' (by omega)).mono ?_; rintro e w4 ⟨v4, rfl, ho1, hg1, hn1⟩; have HM6 := Lib.hid (HM5.out.step ho1 hg1); clear ho1 hg1 hn1 p1 p2 p3 p4 c1 c2 c3 c4 c6)
    have hz4 := HM6.out.lt
    go_upto_region 9 with fail
    have HM7 := Lib.hid (HM6.out.alloc (.cells #[.int .u32 0] 45))
    have hnb := Blk.new w4 45 #[.int .u32 0]
    obtain ⟨w5, hw5⟩ : ∃ w5, w4.alloc (.cells #[.int .u32 0] 45) = w5 := ⟨_, rfl⟩
    rw [hw5] at HM7 hnb ⊢
    clear hw5
    have hz5 := HM7.out.lt
    obtain ⟨_, _, c6⟩ := HM7.out.cells
    have n0 := HM7.out.bn.cell 0
    have nf := HM7.out.bn.free 0
    have m0 := hnb.cell 0
    obtain ⟨nb, hnbe⟩ : ∃ nb, w4.heap.size = nb := ⟨_, rfl⟩
    rw [hnbe] at m0 hz4 ⊢
    clear hnbe hnb
    go_wp2_with fail
    go_region
    all_goals
      go_wp2_with fail
      have hfin := HM7.out.fin HBB.out
      have hr0 := hfin.2.2.2
      refine bodyPost_ret (v := .tuple #[v4, .agg #[.int .u32 0]]) (by simp [results, Tryd.results21, go_sem, hr0]) rfl ⟨v4, rfl, ?_, hfin.2.1, hfin.2.2.1⟩
      have e : (((ys ++ enc (cgc - pgc)) ++ enc (csi - psi)) ++ enc (col - pol)) ++ enc (coc - poc) = xs ++ (cmq lb ++ encs (cgc - pgc) (csi - psi) (col - pol) (coc - poc)) := by rw [← HY.out]; simp [encs]
      rw [← e]
      exact hfin.1
end Go.Proofs.YtoegmcakolidbaaDoor
