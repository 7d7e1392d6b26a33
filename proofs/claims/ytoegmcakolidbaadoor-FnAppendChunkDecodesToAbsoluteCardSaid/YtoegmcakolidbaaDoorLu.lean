/-
  FnAppendChunk's law: two more of its early ways out. No statement of the seat is proved here.
-/
import Derived.Test.YtoegmcakolidbaaDoorLv
namespace Go.Proofs.YtoegmcakolidbaaDoor
open Go.RowKit
set_option linter.unusedVariables false
set_option maxRecDepth 100000 in
theorem bad_6 (a0 a3 a4 : Option Addr) (c0 c3 c4 n0 n3 n4 : Nat) (p s : St) (pb : Bool) (w : World) (h : n0 + n3 + n4 ≤ 1048576) (k0 : n0 ≤ 65536) (k3 : n3 ≤ 20480) (k4 : n4 ≤ 65536) (k5 : 5 ≤ n3) (g0 : 0 ≤ s.gl) (g1 : s.gl ≤ 4096) (hx : ¬ OkS p) :
    Calls Tryd.prog 3 #[.slice a0 n0 c0, .agg (sCells p pb), .agg (sCells s false), .slice a3 n3 c3, .slice a4 n4 c4] w (LawTrue w) := by
  have HB := fun w' => Lib.hid (bytes_yes a0 a3 a4 c0 c3 c4 n0 n3 n4 p s pb false w' h)
  have HS := Lib.hid (Bx.start w p s pb false)
  have HP := fun w' => Lib.hid (so_no p pb w' hx)
  unfold sCells at HP
  obtain ⟨pgl, pgc, psi, pol, poc, pon⟩ := p
  obtain ⟨sgl, sgc, ssi, sol, soc, son⟩ := s
  unfold sCells at HB HS ⊢
  simp only at HB HS g0 g1 ⊢
  have d1 : decide (65536 < n0) = false := decide_eq_false (by omega)
  have d2 : decide (20480 < n3) = false := decide_eq_false (by omega)
  have d3 : decide (65536 < n4) = false := decide_eq_false (by omega)
  have d4 : decide ((1048576 : Int) < (n0 : Int) + 4 * (n3 : Int) + (n4 : Int)) = false := decide_eq_false (by omega)
  have e1 : decide (n3 < 5) = false := decide_eq_false (by omega)
  have e2 : decide (sgl < 0) = false := decide_eq_false (by omega)
  have e3 : decide (4096 < sgl) = false := decide_eq_false (by omega)
  go_enter Tryd.func3, Tryd.ntmps3
  go_upto_region 11 with (go_at_call 4; refine (HB _).out.mono ?_; rintro e w4 ⟨rfl, hb⟩; have HW := Lib.hid (HS.out.below hb); have x0 : w4.cell? ⟨w.heap.size + 1, 0, none⟩ = some (.int .i64 sgl) := HW.out.bs.cell 0; have x6 : w4.cell? ⟨w.heap.size + 1, 6, none⟩ = some (.bool false) := HW.out.bs.cell 6; clear hb)
  clear x0 x6 HS HB
  have y0 : w4.cell? ⟨w.heap.size, 0, none⟩ = some (.int .i64 pgl) := HW.out.bp.cell 0
  have y1 : w4.cell? ⟨w.heap.size, 1, none⟩ = some (.int .i64 pgc) := HW.out.bp.cell 1
  have y2 : w4.cell? ⟨w.heap.size, 2, none⟩ = some (.int .i64 psi) := HW.out.bp.cell 2
  have y3 : w4.cell? ⟨w.heap.size, 3, none⟩ = some (.int .i64 pol) := HW.out.bp.cell 3
  have y4 : w4.cell? ⟨w.heap.size, 4, none⟩ = some (.int .i64 poc) := HW.out.bp.cell 4
  have y5 : w4.cell? ⟨w.heap.size, 5, none⟩ = some (.int .i64 pon) := HW.out.bp.cell 5
  have y6 : w4.cell? ⟨w.heap.size, 6, none⟩ = some (.bool pb) := HW.out.bp.cell 6
  go_wp2_with (go_at_call 5; refine (HP _).out.mono ?_; rintro e w5 ⟨rfl, hb⟩; replace HW := Lib.hid (HW.out.below hb); clear hb y0 y1 y2 y3 y4 y5 y6)
  go_ret
  exact ⟨rfl, HW.out.bel⟩
set_option maxRecDepth 100000 in
theorem bad_7 (a0 a3 a4 : Option Addr) (c0 c3 c4 n0 n3 n4 : Nat) (p s : St) (pb : Bool) (w : World) (h : n0 + n3 + n4 ≤ 1048576) (k0 : n0 ≤ 65536) (k3 : n3 ≤ 20480) (k4 : n4 ≤ 65536) (k5 : 5 ≤ n3) (g0 : 0 ≤ s.gl) (g1 : s.gl ≤ 4096) (hp : OkS p) (hx : ¬ OkS s) :
    Calls Tryd.prog 3 #[.slice a0 n0 c0, .agg (sCells p pb), .agg (sCells s false), .slice a3 n3 c3, .slice a4 n4 c4] w (LawTrue w) := by
  have HB := fun w' => Lib.hid (bytes_yes a0 a3 a4 c0 c3 c4 n0 n3 n4 p s pb false w' h)
  have HS := Lib.hid (Bx.start w p s pb false)
  have HQ1 : Hid (∀ (gl gc si ol oc on : Int) (b : Bool) (w' : World), OkS ⟨gl, gc, si, ol, oc, on⟩ → Calls Tryd.prog 5 #[.agg #[.int .i64 gl, .int .i64 gc, .int .i64 si, .int .i64 ol, .int .i64 oc, .int .i64 on, .bool b], .int .i64 16777216] w' fun e w'' => e = .returned (.bool true) ∧ Below w'.heap.size w' w'') := Lib.hid (fun gl gc si ol oc on b w' h => so_yes ⟨gl, gc, si, ol, oc, on⟩ b w' h)
  have HQ2 : Hid (∀ (gl gc si ol oc on : Int) (b : Bool) (w' : World), ¬ OkS ⟨gl, gc, si, ol, oc, on⟩ → Calls Tryd.prog 5 #[.agg #[.int .i64 gl, .int .i64 gc, .int .i64 si, .int .i64 ol, .int .i64 oc, .int .i64 on, .bool b], .int .i64 16777216] w' fun e w'' => e = .returned (.bool false) ∧ Below w'.heap.size w' w'') := Lib.hid (fun gl gc si ol oc on b w' h => so_no ⟨gl, gc, si, ol, oc, on⟩ b w' h)
  have HOK := Lib.hid (And.intro hp hx)
  obtain ⟨pgl, pgc, psi, pol, poc, pon⟩ := p
  obtain ⟨sgl, sgc, ssi, sol, soc, son⟩ := s
  unfold sCells at HB HS ⊢
  simp only at HB HS g0 g1 ⊢
  have d1 : decide (65536 < n0) = false := decide_eq_false (by omega)
  have d2 : decide (20480 < n3) = false := decide_eq_false (by omega)
  have d3 : decide (65536 < n4) = false := decide_eq_false (by omega)
  have d4 : decide ((1048576 : Int) < (n0 : Int) + 4 * (n3 : Int) + (n4 : Int)) = false := decide_eq_false (by omega)
  have e1 : decide (n3 < 5) = false := decide_eq_false (by omega)
  have e2 : decide (sgl < 0) = false := decide_eq_false (by omega)
  have e3 : decide (4096 < sgl) = false := decide_eq_false (by omega)
  go_enter Tryd.func3, Tryd.ntmps3
  go_upto_region 11 with (go_at_call 4; refine (HB _).out.mono ?_; rintro e w4 ⟨rfl, hb⟩; have HW := Lib.hid (HS.out.below hb); have x0 : w4.cell? ⟨w.heap.size + 1, 0, none⟩ = some (.int .i64 sgl) := HW.out.bs.cell 0; have x6 : w4.cell? ⟨w.heap.size + 1, 6, none⟩ = some (.bool false) := HW.out.bs.cell 6; clear hb)
  clear x0 x6 HS HB
  have y0 : w4.cell? ⟨w.heap.size, 0, none⟩ = some (.int .i64 pgl) := HW.out.bp.cell 0
  have y1 : w4.cell? ⟨w.heap.size, 1, none⟩ = some (.int .i64 pgc) := HW.out.bp.cell 1
  have y2 : w4.cell? ⟨w.heap.size, 2, none⟩ = some (.int .i64 psi) := HW.out.bp.cell 2
  have y3 : w4.cell? ⟨w.heap.size, 3, none⟩ = some (.int .i64 pol) := HW.out.bp.cell 3
  have y4 : w4.cell? ⟨w.heap.size, 4, none⟩ = some (.int .i64 poc) := HW.out.bp.cell 4
  have y5 : w4.cell? ⟨w.heap.size, 5, none⟩ = some (.int .i64 pon) := HW.out.bp.cell 5
  have y6 : w4.cell? ⟨w.heap.size, 6, none⟩ = some (.bool pb) := HW.out.bp.cell 6
  go_wp2_with (first
    | (go_at_call 5; refine (HQ1.out _ _ _ _ _ _ _ _ (by exact HOK.out.1)).mono ?_; rintro e w5 ⟨rfl, hb⟩; replace HW := Lib.hid (HW.out.below hb); clear hb y0 y1 y2 y3 y4 y5 y6 HQ1; have y0 : w5.cell? ⟨w.heap.size + 1, 0, none⟩ = some (.int .i64 sgl) := HW.out.bs.cell 0; have y1 : w5.cell? ⟨w.heap.size + 1, 1, none⟩ = some (.int .i64 sgc) := HW.out.bs.cell 1; have y2 : w5.cell? ⟨w.heap.size + 1, 2, none⟩ = some (.int .i64 ssi) := HW.out.bs.cell 2; have y3 : w5.cell? ⟨w.heap.size + 1, 3, none⟩ = some (.int .i64 sol) := HW.out.bs.cell 3; have y4 : w5.cell? ⟨w.heap.size + 1, 4, none⟩ = some (.int .i64 soc) := HW.out.bs.cell 4; have y5 : w5.cell? ⟨w.heap.size + 1, 5, none⟩ = some (.int .i64 son) := HW.out.bs.cell 5; have y6 : w5.cell? ⟨w.heap.size + 1, 6, none⟩ = some (.bool false) := HW.out.bs.cell 6)
    | (go_at_call 5; refine (HQ2.out _ _ _ _ _ _ _ _ (by exact HOK.out.2)).mono ?_; rintro e w5 ⟨rfl, hb⟩; replace HW := Lib.hid (HW.out.below hb); clear hb y0 y1 y2 y3 y4 y5 y6))
  go_ret
  exact ⟨rfl, HW.out.bel⟩
end Go.Proofs.YtoegmcakolidbaaDoor
