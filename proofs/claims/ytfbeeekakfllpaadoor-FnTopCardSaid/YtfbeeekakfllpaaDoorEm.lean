/-
  (*zzRef).emit and cover. No statement of the seat is proved here.
-/
import Derived.Test.YtfbeeekakfllpaaDoorRf
import Derived.Test.YtfbeeekakfllpaaDoorStp
import Derived.Test.YtfbeeekakfllpaaDoorRd
import Derived.Deep.RegionLaw
namespace Go.Proofs.YtfbeeekakfllpaaDoor
open Go.RowKit
set_option linter.unusedVariables false
set_option linter.unusedSimpArgs false
def IsEmit (f B : Nat) (k : Rk) (q' : Pq) (w : World) (e : Ending) (w' : World) : Prop := ∃ k' : Rk, e = .returned (.tuple #[]) ∧ Rst w f B k w' k' q' ∧ k'.ns = k.ns ∧ k'.ploc = k.ploc ∧ k'.plen = k.plen ∧ k'.pname = k.pname ∧ k'.last = k.last
theorem cells_emit0 (k : Rk) (q : Pq) (lv' : Value) (gc ol oc x : Int) (hx : x = (sgs (q.app gc ol oc none).toks : Nat)) : ((((((k.cells q).setIfInBounds 9 (.int .i64 gc)).setIfInBounds 10 (.int .i64 ol)).setIfInBounds 11 (.int .i64 oc)).setIfInBounds 13 (.bool false)).setIfInBounds 5 (.bool true)).setIfInBounds 15 (.int .i64 x) = ({ k with lv := lv' } : Rk).cells (q.app gc ol oc none) := by subst hx; kernel_rfl
theorem cells_emit1 (k : Rk) (q : Pq) (lv' : Value) (gc ol oc x : Int) (i : Nat) (hx : x = (sgs (q.app gc ol oc (some i)).toks : Nat)) : (((((((k.cells q).setIfInBounds 9 (.int .i64 gc)).setIfInBounds 10 (.int .i64 ol)).setIfInBounds 11 (.int .i64 oc)).setIfInBounds 12 (.int .i64 i)).setIfInBounds 13 (.bool true)).setIfInBounds 5 (.bool true)).setIfInBounds 15 (.int .i64 x) = ({ k with lv := lv' } : Rk).cells (q.app gc ol oc (some i)) := by subst hx; kernel_rfl
theorem sgs_add (q : Pq) (gc ol oc : Int) (nm : Option Nat) : sgs (q.app gc ol oc nm).toks = sgs q.toks + 1 := by
  show sgs (q.toks ++ _) = _
  rw [sgs_app]; rfl
set_option maxRecDepth 100000 in
set_option maxHeartbeats 4000000 in
theorem emit_any (f B : Nat) (k : Rk) (q : Pq) (gc ol oc : Int) (nm : Option Nat) (A1 A5 : Int) (hA1 : A1 = if nm.isSome then 5 else 4) (hA5 : A5 = nmI nm) (w : World) (h : Rf w f B k q) (hB : B ≤ w.heap.size) (hc : q.cur.length ≤ 33554432) (hr : q.rows.length ≤ 33554432) (ht : sgs q.toks ≤ 33554432) :
    Calls Tryd.prog 31 #[.pointer (some ⟨f, 0, none⟩), .agg #[.int .i64 gc, .int .i64 A1, .int .i64 0, .int .i64 ol, .int .i64 oc, .int .i64 A5]] w (IsEmit f B k (q.app gc ol oc nm) w) := by
  have HH := Lib.hid (Rx.start h)
  have HA := Lib.hid (And.intro hA1 hA5)
  obtain ⟨n, hn⟩ : ∃ n, q.rows.length = n := ⟨_, rfl⟩
  obtain ⟨m, hm⟩ : ∃ m, q.cur.length = m := ⟨_, rfl⟩
  have hcl : k.cvs.length = n := by rw [h.lns.rl, hn]
  have hlen : (k.cvs ++ [k.lv]).length = n + 1 := by simp [hcl]
  obtain ⟨go, cap, hv, hgB, hgl, hgc, hgf⟩ := h.lns.out.at n (by omega)
  rw [hlen] at hv
  have hgc' : w.cell? ⟨go, n, none⟩ = some k.lv := by rw [hgc]; simp [← hcl]
  clear hgc
  obtain ⟨ao, lcap, hlv, _⟩ := h.lns.la.form
  rw [List.length_map, hm] at hlv
  have c0 := h.blk.cell 0
  have hlf := h.blk.lt
  simp [Rk.cells] at c0
  rw [hv] at c0
  rw [hlv] at hgc'
  obtain ⟨sc, hsc⟩ : ∃ sc, sgs q.toks = sc := ⟨_, rfl⟩
  rw [hn] at hr
  rw [hm] at hc
  rw [hsc] at ht
  have HK := Lib.hid (And.intro hcl (And.intro hv (And.intro hlv (And.intro hm hsc))))
  have hneg : ¬ go = f := fun e => (Rx.start h).neF.1 (.inl (by rw [hv]; exact congrArg some e))
  clear hcl hlen hv hlv hn h hA1 hA5 hm hsc
  obtain ⟨N, hN⟩ : ∃ N, n + 1 = N := ⟨_, rfl⟩
  have hNn : n < N := by omega
  have hNq : (N : Int) - 1 = (n : Int) := by omega
  have HN := Lib.hid hN
  rw [hN] at c0
  clear hN
  obtain ⟨W, hW⟩ : ∃ W, w.alloc (.cells #[.int .i64 gc, .int .i64 A1, .int .i64 0, .int .i64 ol, .int .i64 oc, .int .i64 A5] 94) = W := ⟨_, rfl⟩
  obtain ⟨b, hb⟩ : ∃ b, w.heap.size = b := ⟨_, rfl⟩
  have hbk := Blk.new w 94 #[.int .i64 gc, .int .i64 A1, .int .i64 0, .int .i64 ol, .int .i64 oc, .int .i64 A5]
  have hWg : w.grownBy W none := by rw [← hW]; exact World.grownBy_alloc _ _ _
  have HWW := Lib.hid (And.intro hW hb)
  rw [hW, hb] at hbk
  have HW := Lib.hid (And.intro hWg hbk)
  have d0 : W.cell? ⟨f, 0, none⟩ = some (.slice (some ⟨go, 0, none⟩) N cap) := gb_cell hWg (by simp) c0
  have d1 : W.cell? ⟨go, n, none⟩ = some (.slice ao m lcap) := gb_cell hWg (by simp) hgc'
  have hS : W.drew.cell? ⟨f, 0, none⟩ = some (.slice (some ⟨go, 0, none⟩) N cap) ∧ W.drew.cell? ⟨go, n, none⟩ = some (.slice ao m lcap) ∧ W.drew.cell? ⟨b, 0, none⟩ = some (.int .i64 gc) ∧ W.drew.cell? ⟨b, 1, none⟩ = some (.int .i64 A1) ∧ W.drew.cell? ⟨b, 2, none⟩ = some (.int .i64 0) ∧ W.drew.cell? ⟨b, 3, none⟩ = some (.int .i64 ol) ∧ W.drew.cell? ⟨b, 4, none⟩ = some (.int .i64 oc) ∧ W.drew.cell? ⟨b, 5, none⟩ = some (.int .i64 A5) := ⟨d0, d1, hbk.cell 0, hbk.cell 1, hbk.cell 2, hbk.cell 3, hbk.cell 4, hbk.cell 5⟩
  obtain ⟨s0, s1, s2, s3, s4, s5, s6, s7⟩ := hS
  have hS := And.intro s0 (And.intro s1 (And.intro s2 (And.intro s3 (And.intro s4 (And.intro s5 (And.intro s6 s7))))))
  have hlW : W.heap.size = b + 1 := by rw [← hW, ← hb]; simp
  clear c0 hgc' hWg hW
  go_enter Tryd.func31, Tryd.ntmps31
  go_upto_region 1 with fail
  rw [HWW.out.1]
  go_upto_region 2 with fail
  go_cut [] (fun wx => ∃ lv', Hid (Rx w f B k wx (k.cells q) { k with lv := lv' } q.rows (q.cur ++ [⟨gc, A1, ol, oc, A5⟩]) ∧ Blk wx b 94 #[.int .i64 gc, .int .i64 A1, .int .i64 0, .int .i64 ol, .int .i64 oc, .int .i64 A5]))
  case first =>
    have HB : Hid (((q.cur.map sgRow).length + 1 ≤ maxLen ∧ ((q.cur.map sgRow).length + 1) * 48 ≤ 140737488355328) ∧ ∀ o, B ≤ (W.drew.alloc o).heap.size) := Lib.hid (by
      have := HK.out.2.2.2.1; have := HWW.out.2; simp only [List.length_map, maxLen]; refine ⟨by omega, fun o => by simp [hlW]; omega⟩)
    have hlo : k.lv.ownBlock ≠ some f := fun e => HH.out.neF.1 (.inr (.inl e))
    have hlg : k.lv.ownBlock ≠ some go := fun e => HH.out.lns.out.ne HH.out.lns.la (by decide) go (by rw [HK.out.2.1]; rfl) e
    have hlb : k.lv.ownBlock ≠ some b := fun e => by have := (HH.out.lns.la.lt b e).2; have := HWW.out.2; omega
    have HP : Hid (∀ (w4 : World), (W.alloc (.cells #[.int .i64 gc, .int .i64 A1, .int .i64 0, .int .i64 ol, .int .i64 oc, .int .i64 A5] 94)).drew.grownBy w4 k.lv.ownBlock → ((w4.cell? ⟨f, 0, none⟩ = some (.slice (some ⟨go, 0, none⟩) N cap) ∧ w4.cell? ⟨go, n, none⟩ = some (.slice ao m lcap) ∧ w4.cell? ⟨b, 0, none⟩ = some (.int .i64 gc) ∧ w4.cell? ⟨b, 1, none⟩ = some (.int .i64 A1) ∧ w4.cell? ⟨b, 2, none⟩ = some (.int .i64 0) ∧ w4.cell? ⟨b, 3, none⟩ = some (.int .i64 ol) ∧ w4.cell? ⟨b, 4, none⟩ = some (.int .i64 oc) ∧ w4.cell? ⟨b, 5, none⟩ = some (.int .i64 A5)) ∧ w4.frozen? ⟨go, n, none⟩ = false)) := Lib.hid (fun w4 hg => by
      have hg' : W.grownBy w4 k.lv.ownBlock := gb_trans (gb_trans (World.grownBy_alloc _ _ _) (gb_drewN _ 1)) hg
      obtain ⟨s0, s1, s2, s3, s4, s5, s6, s7⟩ := hS
      have hfz : w4.frozen? ⟨go, n, none⟩ = false := by
        have ho := (HH.out.lns.out.gb HW.out.1 (by cases k.v.ownBlock <;> simp)).gb hg' (.inr (fun e => hlg (by rw [← e, HK.out.2.1]; rfl)))
        obtain ⟨g', cap', hv', _, _, _, hf'⟩ := Own1.at ho n (by simp [HK.out.1])
        rw [HK.out.2.1] at hv'
        have e := congrArg Value.ownBlock hv'
        simp [Value.ownBlock] at e
        rw [e]; exact hf'
      refine ⟨?_, hfz⟩
      exact ⟨gb_cell hg' hlo s0, gb_cell hg' hlg s1, gb_cell hg' hlb s2, gb_cell hg' hlb s3, gb_cell hg' hlb s4, gb_cell hg' hlb s5, gb_cell hg' hlb s6, gb_cell hg' hlb s7⟩)
    have HB2 := Lib.hid (And.intro hlb (show go < b by have := HWW.out.2; omega))
    clear hlo hlg hlb
    have hga : W.drew.grownBy (W.alloc (.cells #[.int .i64 gc, .int .i64 A1, .int .i64 0, .int .i64 ol, .int .i64 oc, .int .i64 A5] 94)).drew none := World.grownBy_alloc W.drew (.cells #[.int .i64 gc, .int .i64 A1, .int .i64 0, .int .i64 ol, .int .i64 oc, .int .i64 A5] 94) none
    have a0 := gb_cell hga (by simp) hS.1
    have a1 := gb_cell hga (by simp) hS.2.1
    clear hga
    go_region_law ((refine step_pushT rfl (.tmp 22) (.tmp 24) 96 94 6 rfl B Tryd.underlying96 48 (.agg #[.int .i64 0, .int .i64 0, .int .i64 0, .int .i64 0, .int .i64 0, .int .i64 0]) rfl (by omega) info94 k.lv (q.cur.map sgRow) [.int .i64 gc, .int .i64 A1, .int .i64 0, .int .i64 ol, .int .i64 oc, .int .i64 A5] (by rw [HK.out.2.2.1]; simp [Act.eval, Act.put]) (HH.out.lns.la.gb (gb_trans HW.out.1 (gb_trans (gb_drewN W 1) (World.grownBy_alloc _ _ none))) (by cases k.lv.ownBlock <;> simp)) W.drew.heap.size (by simp [Act.eval, Act.put]) (Blk.new _ _ _) rfl (one6 _ _ _ _ _ _) HB.out.1.1 HB.out.1.2 (HB.out.2 _) ?_; intro v' w4 ho4 hg4 hv4; obtain ⟨hS4, hf4⟩ := HP.out _ hg4; have t1 := hS4.2.1; have t0 := hS4.1; obtain ⟨ao4, n4, cap4, hv4f⟩ := ho4.slice; subst hv4f; have H4 := Lib.hid (And.intro ho4 (And.intro hg4 hv4)); clear ho4 hg4 hv4))
    all_goals
      go_wp2_with fail
      go_meet
      have hgo := H4.out.2.1
      have hW1 : w.grownBy (W.alloc (.cells #[.int .i64 gc, .int .i64 A1, .int .i64 0, .int .i64 ol, .int .i64 oc, .int .i64 A5] 94)).drew none := gb_trans HW.out.1 (gb_trans (World.grownBy_alloc _ _ _) (gb_drewN _ 1))
      have hx := HH.out.emit (x := ⟨gc, A1, ol, oc, A5⟩) hW1 H4.out.1 hgo H4.out.2.2 HK.out.2.1
      rw [HK.out.1] at hx
      refine ⟨_, Lib.hid ⟨hx, ((HW.out.2.gb (gb_trans (World.grownBy_alloc _ _ none) (gb_drewN _ 1)) (by simp)).gb hgo (fun e => HB2.out.1 e.symm)).gb (gb_set (gb_refl _ (some go)) n none _) (fun e => by have := HB2.out.2; simp at e; omega)⟩⟩
  case rest =>
    obtain ⟨wz, rfl⟩ : ∃ wz : World, wz = wc := ⟨_, rfl⟩
    obtain ⟨lv', HX⟩ := hcut
    have b0 := HX.out.2.cell 0
    have b3 := HX.out.2.cell 3
    have b4 := HX.out.2.cell 4
    have b5 := HX.out.2.cell 5
    have k15 := HX.out.1.blk.cell 15
    have k9 := HX.out.1.blk.cell 9
    have k10 := HX.out.1.blk.cell 10
    have k11 := HX.out.1.blk.cell 11
    have k12 := HX.out.1.blk.cell 12
    have k13 := HX.out.1.blk.cell 13
    have k5 := HX.out.1.blk.cell 5
    have fr := HX.out.1.blk.free
    have lf := HX.out.1.blk.lt
    have hbf : ¬ b = f := by have := HWW.out.2; omega
    simp only [Rk.cells] at k15 k9 k10 k11 k12 k13 k5
    rw [HK.out.2.2.2.2] at k15
    clear d0 d1 s0 s1 s2 s3 s4 s5 s6 s7 hS hbk
    cases nm with
    | none =>
      obtain ⟨e1, e5⟩ := HA.out
      simp [nmI] at e1 e5
      subst e1 e5
      go_wp2_with fail
      go_end0
      refine ⟨{ k with lv := lv' }, rfl, ?_, rfl, rfl, rfl, rfl, rfl⟩
      exact Rx.fin ((((((HX.out.1.put 9 (.int .i64 gc)).put 10 (.int .i64 ol)).put 11 (.int .i64 oc)).put 13 (.bool false)).put 5 (.bool true)).put 15 (.int .i64 ((sc : Int) + 1))) _ _ rfl rfl rfl rfl rfl rfl (by simp [Pq.app, nmI]) (cells_emit0 k q lv' gc ol oc _ (by rw [sgs_add, HK.out.2.2.2.2]; rfl))
    | some i =>
      obtain ⟨e1, e5⟩ := HA.out
      simp [nmI] at e1 e5
      subst e1 e5
      go_wp2_with fail
      go_end0
      refine ⟨{ k with lv := lv' }, rfl, ?_, rfl, rfl, rfl, rfl, rfl⟩
      exact Rx.fin (((((((HX.out.1.put 9 (.int .i64 gc)).put 10 (.int .i64 ol)).put 11 (.int .i64 oc)).put 12 (.int .i64 i)).put 13 (.bool true)).put 5 (.bool true)).put 15 (.int .i64 ((sc : Int) + 1))) _ _ rfl rfl rfl rfl rfl rfl (by simp [Pq.app, nmI]) (cells_emit1 k q lv' gc ol oc _ i (by rw [sgs_add, HK.out.2.2.2.2]; rfl))
end Go.Proofs.YtfbeeekakfllpaaDoor
