/-
  The law's walk. No statement of the seat is proved here.
-/
import Derived.Test.YtfbeeekakfllpaaDoorRn
import Derived.Test.YtfbeeekakfllpaaDoorCk
namespace Go.Proofs.YtfbeeekakfllpaaDoor
open Go.RowKit Go.Maps
set_option linter.unusedVariables false
set_option linter.unusedSimpArgs false
def LawTrue (w : World) (e : Ending) (w' : World) : Prop := e = .returned (.bool true) ∧ Below w.heap.size w w'
theorem alloc35 (w : World) : (Instr.alloc 35 true (.tuple #[])).run Tryd.prog w = .ok (.pointer (some ⟨w.heap.size, 0, none⟩)) (w.alloc (.cells z35 35)) := by kernel_rfl
theorem run_cells35 {wr : World} {c f : Nat} {sao : Option Addr} {sn scap : Nat} {fno : Int} {qao : Option Addr} {qn qcap : Nat} {gl gc ol oc on : Int} {hn : Bool} {gcol : Int} {ig : Bool} (h : Blk wr c 35 (runS f sao sn scap fno qao qn qcap gl gc ol oc on hn gcol ig)) :
    wr.cell? ⟨c, 0, none⟩ = some (.pointer (some ⟨f, 0, none⟩)) ∧ wr.cell? ⟨c, 1, none⟩ = some (.slice sao sn scap) ∧ wr.cell? ⟨c, 2, none⟩ = some (.int .u32 fno) ∧ wr.cell? ⟨c, 3, none⟩ = some (.slice qao qn qcap) ∧ wr.cell? ⟨c, 4, none⟩ = some (.int .i64 gl) ∧ wr.cell? ⟨c, 5, none⟩ = some (.int .i64 gc) ∧ wr.cell? ⟨c, 6, none⟩ = some (.int .i64 0) ∧ wr.cell? ⟨c, 7, none⟩ = some (.int .i64 ol) ∧ wr.cell? ⟨c, 8, none⟩ = some (.int .i64 oc) ∧ wr.cell? ⟨c, 9, none⟩ = some (.int .i64 on) ∧ wr.cell? ⟨c, 10, none⟩ = some (.bool hn) ∧ wr.cell? ⟨c, 11, none⟩ = some (.int .i64 gcol) ∧ wr.cell? ⟨c, 12, none⟩ = some (.bool ig) ∧ c < wr.heap.size :=
  ⟨h.cell 0, h.cell 1, h.cell 2, h.cell 3, h.cell 4, h.cell 5, h.cell 6, h.cell 7, h.cell 8, h.cell 9, h.cell 10, h.cell 11, h.cell 12, h.lt⟩
/-- the two calls, in plain values -/
def IsRs (asc : Bool) (w : World) (e : Ending) (w' : World) : Prop := ∃ (f : Nat) (sao : Option Addr) (sn scap : Nat) (fno : Int) (qao : Option Addr) (qn qcap : Nat) (gl gc ol oc on : Int) (hn : Bool) (gcol : Int) (ig : Bool), e = .returned (.agg (runS f sao sn scap fno qao qn qcap gl gc ol oc on hn gcol ig)) ∧ Below w.heap.size w w' ∧
  ∀ w2, Below w'.heap.size w' w2 → Calls Tryd.prog 5 #[.agg (runS f sao sn scap fno qao qn qcap gl gc ol oc on hn gcol ig), .bool asc] w2 fun e w3 => e = .returned (.bool true) ∧ Below w2.heap.size w2 w3
theorem rs_any (cao : Option Addr) (n ccap : Nat) (asc : Bool) (w : World) (hn : n ≤ 1048575) (hc : CodeAt w cao n) (htab : Tab w w.heap.size) (hu8 : Lib.Utf8Tabs 0 1 w) (hw : 2 ≤ w.heap.size) : Calls Tryd.prog 4 #[.slice cao n ccap, .bool asc, .bool false] w (IsRs asc w) := by
  refine (rn_any cao n ccap asc w hn hc htab hu8 hw).mono ?_
  rintro e w1 ⟨f, B, k, q, g, x, sm, qvs, bm, u, m, rfl, hcs, hu, hm, hb⟩
  obtain ⟨sao, scap, hsm, _⟩ := hcs.bu.cbd.own.form
  obtain ⟨qao, qcap, hqn, _⟩ := hcs.bu.qn.form
  have hrn := run_form (f := f) (x := x) (sm := sm) (q := q) (ig := decide (sgs q.toks = 0)) hsm hqn
  refine ⟨f, sao, _, scap, _, qao, _, qcap, _, _, _, _, _, _, _, _, by rw [hrn], hb, fun w2 hb2 => ?_⟩
  have := chk_any f B k q g x sm qvs bm asc u m w2 (hcs.below hb2) hu hm
  rw [hrn] at this
  exact this
set_option maxRecDepth 100000 in
set_option maxHeartbeats 4000000 in
theorem bad1 (ao : Option Addr) (cap n : Nat) (w : World) (h : 1048576 < n) (hm : n ≤ maxLen) : Calls Tryd.prog 3 #[.slice ao n cap] w (LawTrue w) := by
  go_enter Tryd.func3, Tryd.ntmps3
  go_wp2_with fail
  go_ret
  exact ⟨rfl, Below.refl _ _⟩
set_option maxRecDepth 100000 in
set_option maxHeartbeats 4000000 in
theorem law0 (ao : Option Addr) (cap : Nat) (w : World) (htab : Tab w w.heap.size) (hu8 : Lib.Utf8Tabs 0 1 w) (hw : 2 ≤ w.heap.size) : Calls Tryd.prog 3 #[.slice ao 0 cap] w (LawTrue w) := by
  have hrs := rs_any ao 0 cap false w (by omega) (fun i hi => absurd hi (by omega)) htab hu8 hw
  have HR := Lib.hid hrs
  clear hrs htab hu8 hw
  go_enter Tryd.func3, Tryd.ntmps3
  go_upto_region 8 with (first
    | (go_at_call 4; (refine HR.out.mono ?_; rintro e w1 ⟨f, sao, sn, scap, fno, qao, qn, qcap, gl, gc, ol, oc, on, hn, gcol, ig, rfl, hb, hck⟩; have H1 := Lib.hid (And.intro hb hck); clear hb hck))
    | (refine wpList_alloc_zero rfl 35 rfl z35 alloc35 ?_)
    | (refine wpList_store_blk rfl 35 _ _ rfl w1.heap.size z35 (runS f sao sn scap fno qao qn qcap gl gc ol oc on hn gcol ig) (Blk.new w1 35 z35) rfl rfl (size35 _ _ _ _ _ _ _ _ _ _ _ _ _ _ _ _) (info35 _ _ _ _ _ _ _ _ _ _ _ _ _ _ _ _) (one35 _ _ _ _ _ _ _ _ _ _ _ _ _ _ _ _) ?_; intro w3 hb3 hg3))
  have hb13 : Below w1.heap.size w1 w3 := ((Below.refl _ w1).alloc (Nat.le_refl _) _).grown hg3 (by simp) (fun k e => by cases e; exact Nat.le_refl _)
  have HC : Hid (Calls Tryd.prog 5 #[.agg (runS f sao sn scap fno qao qn qcap gl gc ol oc on hn gcol ig), .bool false] w3 fun e w4 => e = .returned (.bool true) ∧ Below w3.heap.size w3 w4) := Lib.hid (H1.out.2 w3 hb13)
  have HB : Hid (Below w.heap.size w w3) := Lib.hid (H1.out.1.trans (hb13.mono H1.out.1.size))
  obtain ⟨r0, hr0⟩ : ∃ r, w1.heap.size = r := ⟨_, rfl⟩
  rw [hr0] at hb3 ⊢
  obtain ⟨c0, c1, c2, c3, c4, c5, c6, c7, c8, c9, c10, c11, c12, hcl⟩ := run_cells35 hb3
  clear hb3 hg3 hb13 hr0 H1 HR
  unfold runS at HC
  go_wp2_with (go_at_call 5; (refine HC.out.mono ?_; rintro e w4 ⟨rfl, hb4⟩; have H4 := Lib.hid hb4; clear hb4))
  go_ret
  exact ⟨rfl, HB.out.trans (H4.out.mono HB.out.size)⟩
set_option maxRecDepth 100000 in
set_option maxHeartbeats 4000000 in
theorem law1 (b off n cap : Nat) (z : Int) (asc : Bool) (w : World) (h0 : w.cell? ⟨b, off, none⟩ = some (.int .u8 z)) (hz0 : 0 ≤ z) (hz : z < 256) (hasc : (bits .and .u8 z 1 == 1) = asc) (hn : 0 < n) (hn2 : n ≤ 1048576) (hcap : n ≤ cap)
    (hrs : ∀ ao ccap, (1 < n → ao = some ⟨b, off + 1, none⟩) → Calls Tryd.prog 4 #[.slice ao (n - 1) ccap, .bool asc, .bool false] w (IsRs asc w)) : Calls Tryd.prog 3 #[.slice (some ⟨b, off, none⟩) n cap] w (LawTrue w) := by
  have HR := Lib.hid hrs
  clear hrs
  go_enter Tryd.func3, Tryd.ntmps3
  go_upto_region 7 with fail
  obtain ⟨ao, hao⟩ : ∃ ao, (if cap = 1 then some (⟨b, off, none⟩ : Addr) else some ⟨b, off + 1, none⟩) = ao := ⟨_, rfl⟩
  obtain ⟨n1, hn1⟩ : ∃ n1, n - 1 = n1 := ⟨_, rfl⟩
  have HRS : Hid (Calls Tryd.prog 4 #[.slice ao n1 (cap - 1), .bool asc, .bool false] w (IsRs asc w)) := Lib.hid (by rw [← hn1]; exact HR.out ao (cap - 1) (fun h => by rw [← hao, if_neg (by omega)]))
  rw [hao, hn1]
  clear hao hn1 HR h0 hasc
  go_upto_region 8 with (first
    | (go_at_call 4; (refine HRS.out.mono ?_; rintro e w1 ⟨f, sao, sn, scap, fno, qao, qn, qcap, gl, gc, ol, oc, on, hn, gcol, ig, rfl, hb, hck⟩; have H1 := Lib.hid (And.intro hb hck); clear hb hck))
    | (refine wpList_alloc_zero rfl 35 rfl z35 alloc35 ?_)
    | (refine wpList_store_blk rfl 35 _ _ rfl w1.heap.size z35 (runS f sao sn scap fno qao qn qcap gl gc ol oc on hn gcol ig) (Blk.new w1 35 z35) rfl rfl (size35 _ _ _ _ _ _ _ _ _ _ _ _ _ _ _ _) (info35 _ _ _ _ _ _ _ _ _ _ _ _ _ _ _ _) (one35 _ _ _ _ _ _ _ _ _ _ _ _ _ _ _ _) ?_; intro w3 hb3 hg3))
  have hb13 : Below w1.heap.size w1 w3 := ((Below.refl _ w1).alloc (Nat.le_refl _) _).grown hg3 (by simp) (fun k e => by cases e; exact Nat.le_refl _)
  have HC : Hid (Calls Tryd.prog 5 #[.agg (runS f sao sn scap fno qao qn qcap gl gc ol oc on hn gcol ig), .bool asc] w3 fun e w4 => e = .returned (.bool true) ∧ Below w3.heap.size w3 w4) := Lib.hid (H1.out.2 w3 hb13)
  have HB : Hid (Below w.heap.size w w3) := Lib.hid (H1.out.1.trans (hb13.mono H1.out.1.size))
  obtain ⟨r0, hr0⟩ : ∃ r, w1.heap.size = r := ⟨_, rfl⟩
  rw [hr0] at hb3 ⊢
  obtain ⟨c0, c1, c2, c3, c4, c5, c6, c7, c8, c9, c10, c11, c12, hcl⟩ := run_cells35 hb3
  clear hb3 hg3 hb13 hr0 H1 HRS
  unfold runS at HC
  go_wp2_with (go_at_call 5; (refine HC.out.mono ?_; rintro e w4 ⟨rfl, hb4⟩; have H4 := Lib.hid hb4; clear hb4))
  go_ret
  exact ⟨rfl, HB.out.trans (H4.out.mono HB.out.size)⟩
/-- the law's walk, for every text -/
theorem law_any (a : Option Addr) (n cap : Nat) (w : World) (hc : CodeAt w a n) (hcap : n ≤ cap) (hm : n ≤ maxLen) (htab : Tab w w.heap.size) (hu8 : Lib.Utf8Tabs 0 1 w) (hw : 2 ≤ w.heap.size) : Calls Tryd.prog 3 #[.slice a n cap] w (LawTrue w) := by
  by_cases h1 : 1048576 < n
  · exact bad1 a cap n w h1 hm
  · rcases Nat.eq_zero_or_pos n with rfl | h0
    · exact law0 a cap w htab hu8 hw
    · obtain ⟨b, off, z, rfl, h2, h3, h4⟩ := hc 0 h0
      refine law1 b off n cap z _ w h2 h3 h4 rfl h0 (by omega) hcap (fun ao ccap hao => rs_any ao (n - 1) ccap _ w (by omega) (fun i hi => ?_) htab hu8 hw)
      obtain ⟨b', off', z', e, g2, g3, g4⟩ := hc (i + 1) (by omega)
      cases e
      exact ⟨b, off + 1, z', hao (by omega), by rw [Nat.add_assoc, Nat.add_comm 1 i]; exact g2, g3, g4⟩
end Go.Proofs.YtfbeeekakfllpaaDoor
