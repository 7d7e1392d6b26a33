/-
  FnAppendChunk's law: its early ways out; small contracts. No statement of the seat is proved here.
-/
import Derived.Test.YtoegmcakolidbaaDoorSo
namespace Go.Proofs.YtoegmcakolidbaaDoor
open Go.RowKit
set_option linter.unusedVariables false
theorem so_dec (s : St) (b : Bool) (w : World) : Calls Tryd.prog 5 #[.agg (sCells s b), .int .i64 16777216] w fun e w' => ((e = .returned (.bool true) ∧ OkS s) ∨ (e = .returned (.bool false) ∧ ¬ OkS s)) ∧ Below w.heap.size w w' := by
  obtain ⟨gl, gc, si, ol, oc, on⟩ := s
  unfold sCells
  simp only
  rcases (show gc < -16777216 ∨ 16777216 < gc ∨ (-16777216 ≤ gc ∧ gc ≤ 16777216) by omega) with h | h | ⟨gc1, gc2⟩
  · go_enter Tryd.func5, Tryd.ntmps5
    go_wp2_with fail
    go_ret
    exact ⟨.inr ⟨rfl, by unfold OkS B24; simp only; omega⟩, (Below.refl _ w).alloc (Nat.le_refl _) _⟩
  · have hb : decide (gc < -16777216) = false := decide_eq_false (by omega)
    go_enter Tryd.func5, Tryd.ntmps5
    go_wp2_with fail
    go_ret
    exact ⟨.inr ⟨rfl, by unfold OkS B24; simp only; omega⟩, (Below.refl _ w).alloc (Nat.le_refl _) _⟩
  have gc3 : decide (gc < -16777216) = false := decide_eq_false (by omega)
  have gc4 : decide (16777216 < gc) = false := decide_eq_false (by omega)
  rcases (show si < -16777216 ∨ 16777216 < si ∨ (-16777216 ≤ si ∧ si ≤ 16777216) by omega) with h | h | ⟨si1, si2⟩
  · go_enter Tryd.func5, Tryd.ntmps5
    go_wp2_with fail
    go_ret
    exact ⟨.inr ⟨rfl, by unfold OkS B24; simp only; omega⟩, (Below.refl _ w).alloc (Nat.le_refl _) _⟩
  · have hb : decide (si < -16777216) = false := decide_eq_false (by omega)
    go_enter Tryd.func5, Tryd.ntmps5
    go_wp2_with fail
    go_ret
    exact ⟨.inr ⟨rfl, by unfold OkS B24; simp only; omega⟩, (Below.refl _ w).alloc (Nat.le_refl _) _⟩
  have si3 : decide (si < -16777216) = false := decide_eq_false (by omega)
  have si4 : decide (16777216 < si) = false := decide_eq_false (by omega)
  rcases (show ol < -16777216 ∨ 16777216 < ol ∨ (-16777216 ≤ ol ∧ ol ≤ 16777216) by omega) with h | h | ⟨ol1, ol2⟩
  · go_enter Tryd.func5, Tryd.ntmps5
    go_wp2_with fail
    go_ret
    exact ⟨.inr ⟨rfl, by unfold OkS B24; simp only; omega⟩, (Below.refl _ w).alloc (Nat.le_refl _) _⟩
  · have hb : decide (ol < -16777216) = false := decide_eq_false (by omega)
    go_enter Tryd.func5, Tryd.ntmps5
    go_wp2_with fail
    go_ret
    exact ⟨.inr ⟨rfl, by unfold OkS B24; simp only; omega⟩, (Below.refl _ w).alloc (Nat.le_refl _) _⟩
  have ol3 : decide (ol < -16777216) = false := decide_eq_false (by omega)
  have ol4 : decide (16777216 < ol) = false := decide_eq_false (by omega)
  rcases (show oc < -16777216 ∨ 16777216 < oc ∨ (-16777216 ≤ oc ∧ oc ≤ 16777216) by omega) with h | h | ⟨oc1, oc2⟩
  · go_enter Tryd.func5, Tryd.ntmps5
    go_wp2_with fail
    go_ret
    exact ⟨.inr ⟨rfl, by unfold OkS B24; simp only; omega⟩, (Below.refl _ w).alloc (Nat.le_refl _) _⟩
  · have hb : decide (oc < -16777216) = false := decide_eq_false (by omega)
    go_enter Tryd.func5, Tryd.ntmps5
    go_wp2_with fail
    go_ret
    exact ⟨.inr ⟨rfl, by unfold OkS B24; simp only; omega⟩, (Below.refl _ w).alloc (Nat.le_refl _) _⟩
  have oc3 : decide (oc < -16777216) = false := decide_eq_false (by omega)
  have oc4 : decide (16777216 < oc) = false := decide_eq_false (by omega)
  rcases (show on < -16777216 ∨ 16777216 < on ∨ (-16777216 ≤ on ∧ on ≤ 16777216) by omega) with h | h | ⟨on1, on2⟩
  · go_enter Tryd.func5, Tryd.ntmps5
    go_wp2_with fail
    go_ret
    exact ⟨.inr ⟨rfl, by unfold OkS B24; simp only; omega⟩, (Below.refl _ w).alloc (Nat.le_refl _) _⟩
  · have hb : decide (on < -16777216) = false := decide_eq_false (by omega)
    go_enter Tryd.func5, Tryd.ntmps5
    go_wp2_with fail
    go_ret
    exact ⟨.inr ⟨rfl, by unfold OkS B24; simp only; omega⟩, (Below.refl _ w).alloc (Nat.le_refl _) _⟩
  have on3 : decide (on < -16777216) = false := decide_eq_false (by omega)
  have on4 : decide (16777216 < on) = false := decide_eq_false (by omega)
  go_enter Tryd.func5, Tryd.ntmps5
  go_wp2_with fail
  go_ret
  exact ⟨.inl ⟨rfl, ⟨gc1, gc2⟩, ⟨si1, si2⟩, ⟨ol1, ol2⟩, ⟨oc1, oc2⟩, ⟨on1, on2⟩⟩, (Below.refl _ w).alloc (Nat.le_refl _) _⟩
theorem so_yes (s : St) (b : Bool) (w : World) (h : OkS s) : Calls Tryd.prog 5 #[.agg (sCells s b), .int .i64 16777216] w fun e w' => e = .returned (.bool true) ∧ Below w.heap.size w w' :=
  (so_dec s b w).mono fun e w' ⟨h1, h2⟩ => ⟨by rcases h1 with h1 | h1; exact h1.1; exact absurd h h1.2, h2⟩
theorem so_no (s : St) (b : Bool) (w : World) (h : ¬ OkS s) : Calls Tryd.prog 5 #[.agg (sCells s b), .int .i64 16777216] w fun e w' => e = .returned (.bool false) ∧ Below w.heap.size w w' :=
  (so_dec s b w).mono fun e w' ⟨h1, h2⟩ => ⟨by rcases h1 with h1 | h1; exact absurd h1.2 h; exact h1.1, h2⟩
theorem bytes_yes (a0 a3 a4 : Option Addr) (c0 c3 c4 n0 n3 n4 : Nat) (p s : St) (pb sb : Bool) (w : World) (h : n0 + n3 + n4 ≤ 1048576) :
    Calls Tryd.prog 4 #[.slice a0 n0 c0, .agg (sCells p pb), .agg (sCells s sb), .slice a3 n3 c3, .slice a4 n4 c4] w fun e w' => e = .returned (.bool true) ∧ Below w.heap.size w w' := by
  obtain ⟨pgl, pgc, psi, pol, poc, pon⟩ := p
  obtain ⟨sgl, sgc, ssi, sol, soc, son⟩ := s
  unfold sCells
  simp only
  have d1 : decide (1048576 < n0) = false := decide_eq_false (by omega)
  have d2 : decide (1048576 < n3) = false := decide_eq_false (by omega)
  have d3 : decide (1048576 < n4) = false := decide_eq_false (by omega)
  go_enter Tryd.func4, Tryd.ntmps4
  go_wp2_with fail
  go_ret
  exact ⟨rfl, ((Below.refl _ w).alloc (Nat.le_refl _) _).alloc (by simp) _⟩
theorem bytes_no (a0 a3 a4 : Option Addr) (c0 c3 c4 n0 n3 n4 : Nat) (p s : St) (pb sb : Bool) (w : World) (h : 1048576 < n0 + n3 + n4) (h0 : n0 ≤ maxLen) (h3 : n3 ≤ maxLen) (h4 : n4 ≤ maxLen) :
    Calls Tryd.prog 4 #[.slice a0 n0 c0, .agg (sCells p pb), .agg (sCells s sb), .slice a3 n3 c3, .slice a4 n4 c4] w fun e w' => e = .returned (.bool false) ∧ Below w.heap.size w w' := by
  obtain ⟨pgl, pgc, psi, pol, poc, pon⟩ := p
  obtain ⟨sgl, sgc, ssi, sol, soc, son⟩ := s
  unfold sCells
  simp only
  unfold maxLen at h0 h3 h4
  by_cases e1 : 1048576 < n0
  · go_enter Tryd.func4, Tryd.ntmps4
    go_wp2_with fail
    go_ret
    exact ⟨rfl, ((Below.refl _ w).alloc (Nat.le_refl _) _).alloc (by simp) _⟩
  have d1 : decide (1048576 < n0) = false := decide_eq_false (by omega)
  by_cases e2 : 1048576 < n3
  · go_enter Tryd.func4, Tryd.ntmps4
    go_wp2_with fail
    go_ret
    exact ⟨rfl, ((Below.refl _ w).alloc (Nat.le_refl _) _).alloc (by simp) _⟩
  have d2 : decide (1048576 < n3) = false := decide_eq_false (by omega)
  by_cases e3 : 1048576 < n0 + n3
  · have e3' : decide ((1048576 : Int) < (n0 : Int) + (n3 : Int)) = true := decide_eq_true (by omega)
    go_enter Tryd.func4, Tryd.ntmps4
    go_wp2_with fail
    go_ret
    exact ⟨rfl, ((Below.refl _ w).alloc (Nat.le_refl _) _).alloc (by simp) _⟩
  by_cases e4 : 1048576 < n4
  · go_enter Tryd.func4, Tryd.ntmps4
    go_wp2_with fail
    go_ret
    exact ⟨rfl, ((Below.refl _ w).alloc (Nat.le_refl _) _).alloc (by simp) _⟩
  have d4 : decide (1048576 < n4) = false := decide_eq_false (by omega)
  have e5' : decide ((1048576 : Int) < (n0 : Int) + (n3 : Int) + (n4 : Int)) = true := decide_eq_true (by omega)
  go_enter Tryd.func4, Tryd.ntmps4
  go_wp2_with fail
  go_ret
  exact ⟨rfl, ((Below.refl _ w).alloc (Nat.le_refl _) _).alloc (by simp) _⟩
theorem io_ex (ao : Option Addr) (cap n : Nat) (zs : List Int) (w : World) (hn : zs.length = n) (hin : In .i32 w ao zs) (hl : n ≤ 1048576) :
    Calls Tryd.prog 6 #[.slice ao n cap, .int .i32 4096] w fun e w' => ∃ b : Bool, e = .returned (.bool b) ∧ (b = true → ∀ z ∈ zs, -4096 ≤ z ∧ z ≤ 4096) ∧ w = w' :=
  (io_any ao cap n zs w hn hin hl).mono fun e w' ⟨h1, h2⟩ => by
    rcases h1 with h1 | h1
    · exact ⟨true, h1.1, fun _ => h1.2, h2⟩
    · exact ⟨false, h1, fun h => by (cases h), h2⟩
def LawTrue (w : World) (e : Ending) (w' : World) : Prop := e = .returned (.bool true) ∧ Below w.heap.size w w'
/-- the two boxes -/
structure Bx (w : World) (p s : St) (pb sb : Bool) (w1 : World) : Prop where
  bp : Blk w1 w.heap.size 24 (sCells p pb)
  bs : Blk w1 (w.heap.size + 1) 24 (sCells s sb)
  bel : Below w.heap.size w w1
theorem Bx.start (w : World) (p s : St) (pb sb : Bool) : Bx w p s pb sb ((w.alloc (.cells (sCells p pb) 24)).alloc (.cells (sCells s sb) 24)) := by
  have k1 := (Blk.new w 24 (sCells p pb)).alloc (.cells (sCells s sb) 24)
  have k2 := Blk.new (w.alloc (.cells (sCells p pb) 24)) 24 (sCells s sb)
  rw [show (w.alloc (.cells (sCells p pb) 24)).heap.size = w.heap.size + 1 by simp] at k2
  exact ⟨k1, k2, ((Below.refl _ w).alloc (Nat.le_refl _) _).alloc (by simp) _⟩
theorem Bx.lt {w w1 : World} {p s : St} {pb sb : Bool} (h : Bx w p s pb sb w1) : w.heap.size + 2 ≤ w1.heap.size := h.bs.lt
theorem Bx.below {w w1 w2 : World} {p s : St} {pb sb : Bool} (h : Bx w p s pb sb w1) (hb : Below w1.heap.size w1 w2) : Bx w p s pb sb w2 :=
  ⟨h.bp.kept hb, h.bs.kept hb, h.bel.trans (hb.mono (by have := h.lt; omega))⟩
set_option maxRecDepth 100000 in
theorem bad_1 (a0 a3 a4 : Option Addr) (c0 c3 c4 n0 n3 n4 : Nat) (p s : St) (pb sb : Bool) (w : World) (h : 1048576 < n0 + n3 + n4) (h0 : n0 ≤ maxLen) (h3 : n3 ≤ maxLen) (h4 : n4 ≤ maxLen) :
    Calls Tryd.prog 3 #[.slice a0 n0 c0, .agg (sCells p pb), .agg (sCells s sb), .slice a3 n3 c3, .slice a4 n4 c4] w (LawTrue w) := by
  have HB := fun w' => Lib.hid (bytes_no a0 a3 a4 c0 c3 c4 n0 n3 n4 p s pb sb w' h h0 h3 h4)
  have HS := Lib.hid (Bx.start w p s pb sb)
  obtain ⟨pgl, pgc, psi, pol, poc, pon⟩ := p
  obtain ⟨sgl, sgc, ssi, sol, soc, son⟩ := s
  unfold sCells at HB HS ⊢
  simp only at HB HS ⊢
  clear h h0 h3 h4
  go_enter Tryd.func3, Tryd.ntmps3
  go_wp2_with (go_at_call 4; refine (HB _).out.mono ?_; rintro e w' ⟨rfl, hb⟩; have HW := Lib.hid hb; clear hb)
  go_ret
  exact ⟨rfl, (HS.out.below HW.out).bel⟩
set_option maxRecDepth 100000 in
theorem bad_2 (a0 a3 a4 : Option Addr) (c0 c3 c4 n0 n3 n4 : Nat) (p s : St) (pb sb : Bool) (w : World) (h : n0 + n3 + n4 ≤ 1048576) (hx : 65536 < n0 ∨ 20480 < n3 ∨ 65536 < n4) :
    Calls Tryd.prog 3 #[.slice a0 n0 c0, .agg (sCells p pb), .agg (sCells s sb), .slice a3 n3 c3, .slice a4 n4 c4] w (LawTrue w) := by
  have HB := fun w' => Lib.hid (bytes_yes a0 a3 a4 c0 c3 c4 n0 n3 n4 p s pb sb w' h)
  have HS := Lib.hid (Bx.start w p s pb sb)
  obtain ⟨pgl, pgc, psi, pol, poc, pon⟩ := p
  obtain ⟨sgl, sgc, ssi, sol, soc, son⟩ := s
  unfold sCells at HB HS ⊢
  simp only at HB HS ⊢
  have d1 : n0 ≤ 65536 → decide (65536 < n0) = false := fun h => decide_eq_false (by omega)
  have d2 : n3 ≤ 20480 → decide (20480 < n3) = false := fun h => decide_eq_false (by omega)
  rcases (show 65536 < n0 ∨ (n0 ≤ 65536 ∧ 20480 < n3) ∨ (n0 ≤ 65536 ∧ n3 ≤ 20480 ∧ 65536 < n4) by omega) with g1 | ⟨g1, g2⟩ | ⟨g1, g2, g3⟩
  · have e1 : decide (65536 < n0) = true := decide_eq_true g1
    clear d1 d2
    go_enter Tryd.func3, Tryd.ntmps3
    go_wp2_with (go_at_call 4; refine (HB _).out.mono ?_; rintro e w' ⟨rfl, hb⟩; have HW := Lib.hid hb; clear hb)
    go_ret
    exact ⟨rfl, (HS.out.below HW.out).bel⟩
  · replace d1 := d1 g1
    have e1 : decide (20480 < n3) = true := decide_eq_true g2
    clear d2
    go_enter Tryd.func3, Tryd.ntmps3
    go_wp2_with (go_at_call 4; refine (HB _).out.mono ?_; rintro e w' ⟨rfl, hb⟩; have HW := Lib.hid hb; clear hb)
    go_ret
    exact ⟨rfl, (HS.out.below HW.out).bel⟩
  · replace d1 := d1 g1
    replace d2 := d2 g2
    have e1 : decide (65536 < n4) = true := decide_eq_true g3
    go_enter Tryd.func3, Tryd.ntmps3
    go_wp2_with (go_at_call 4; refine (HB _).out.mono ?_; rintro e w' ⟨rfl, hb⟩; have HW := Lib.hid hb; clear hb)
    go_ret
    exact ⟨rfl, (HS.out.below HW.out).bel⟩
set_option maxRecDepth 100000 in
theorem bad_4 (a0 a3 a4 : Option Addr) (c0 c3 c4 n0 n3 n4 : Nat) (p s : St) (pb sb : Bool) (w : World) (h : n0 + n3 + n4 ≤ 1048576) (k0 : n0 ≤ 65536) (k3 : n3 ≤ 20480) (k4 : n4 ≤ 65536) (hx : n3 < 5 ∨ sb = true) :
    Calls Tryd.prog 3 #[.slice a0 n0 c0, .agg (sCells p pb), .agg (sCells s sb), .slice a3 n3 c3, .slice a4 n4 c4] w (LawTrue w) := by
  have HB := fun w' => Lib.hid (bytes_yes a0 a3 a4 c0 c3 c4 n0 n3 n4 p s pb sb w' h)
  have HS := Lib.hid (Bx.start w p s pb sb)
  obtain ⟨pgl, pgc, psi, pol, poc, pon⟩ := p
  obtain ⟨sgl, sgc, ssi, sol, soc, son⟩ := s
  unfold sCells at HB HS ⊢
  simp only at HB HS ⊢
  have d1 : decide (65536 < n0) = false := decide_eq_false (by omega)
  have d2 : decide (20480 < n3) = false := decide_eq_false (by omega)
  have d3 : decide (65536 < n4) = false := decide_eq_false (by omega)
  have d4 : decide ((1048576 : Int) < (n0 : Int) + 4 * (n3 : Int) + (n4 : Int)) = false := decide_eq_false (by omega)
  rcases (show n3 < 5 ∨ (5 ≤ n3 ∧ sb = true) by rcases hx with h | h; exact .inl h; exact (Nat.lt_or_ge n3 5).imp id (fun h' => ⟨h', h⟩)) with g1 | ⟨g1, rfl⟩
  · have e1 : decide (n3 < 5) = true := decide_eq_true g1
    go_enter Tryd.func3, Tryd.ntmps3
    go_wp2_with (go_at_call 4; refine (HB _).out.mono ?_; rintro e w4 ⟨rfl, hb⟩; have HW := Lib.hid (HS.out.below hb); have x0 : w4.cell? ⟨w.heap.size + 1, 0, none⟩ = some (.int .i64 sgl) := HW.out.bs.cell 0; have x6 : w4.cell? ⟨w.heap.size + 1, 6, none⟩ = some (.bool sb) := HW.out.bs.cell 6; clear hb)
    go_ret
    exact ⟨rfl, HW.out.bel⟩
  · have e1 : decide (n3 < 5) = false := decide_eq_false (by omega)
    go_enter Tryd.func3, Tryd.ntmps3
    go_wp2_with (go_at_call 4; refine (HB _).out.mono ?_; rintro e w4 ⟨rfl, hb⟩; have HW := Lib.hid (HS.out.below hb); have x0 : w4.cell? ⟨w.heap.size + 1, 0, none⟩ = some (.int .i64 sgl) := HW.out.bs.cell 0; have x6 : w4.cell? ⟨w.heap.size + 1, 6, none⟩ = some (.bool true) := HW.out.bs.cell 6; clear hb)
    go_ret
    exact ⟨rfl, HW.out.bel⟩
set_option maxRecDepth 100000 in
theorem bad_5 (a0 a3 a4 : Option Addr) (c0 c3 c4 n0 n3 n4 : Nat) (p s : St) (pb sb : Bool) (w : World) (h : n0 + n3 + n4 ≤ 1048576) (k0 : n0 ≤ 65536) (k3 : n3 ≤ 20480) (k4 : n4 ≤ 65536) (k5 : 5 ≤ n3) (hsb : sb = false) (hx : s.gl < 0 ∨ 4096 < s.gl) :
    Calls Tryd.prog 3 #[.slice a0 n0 c0, .agg (sCells p pb), .agg (sCells s sb), .slice a3 n3 c3, .slice a4 n4 c4] w (LawTrue w) := by
  have HB := fun w' => Lib.hid (bytes_yes a0 a3 a4 c0 c3 c4 n0 n3 n4 p s pb sb w' h)
  have HS := Lib.hid (Bx.start w p s pb sb)
  obtain ⟨pgl, pgc, psi, pol, poc, pon⟩ := p
  obtain ⟨sgl, sgc, ssi, sol, soc, son⟩ := s
  unfold sCells at HB HS ⊢
  simp only at HB HS ⊢
  have d1 : decide (65536 < n0) = false := decide_eq_false (by omega)
  have d2 : decide (20480 < n3) = false := decide_eq_false (by omega)
  have d3 : decide (65536 < n4) = false := decide_eq_false (by omega)
  have d4 : decide ((1048576 : Int) < (n0 : Int) + 4 * (n3 : Int) + (n4 : Int)) = false := decide_eq_false (by omega)
  subst hsb
  have e1 : decide (n3 < 5) = false := decide_eq_false (by omega)
  simp only at hx
  rcases (show sgl < 0 ∨ (0 ≤ sgl ∧ 4096 < sgl) by omega) with g1 | ⟨g1, g2⟩
  · have e2 : decide (sgl < 0) = true := decide_eq_true g1
    go_enter Tryd.func3, Tryd.ntmps3
    go_wp2_with (go_at_call 4; refine (HB _).out.mono ?_; rintro e w4 ⟨rfl, hb⟩; have HW := Lib.hid (HS.out.below hb); have x0 : w4.cell? ⟨w.heap.size + 1, 0, none⟩ = some (.int .i64 sgl) := HW.out.bs.cell 0; have x6 : w4.cell? ⟨w.heap.size + 1, 6, none⟩ = some (.bool false) := HW.out.bs.cell 6; clear hb)
    go_ret
    exact ⟨rfl, HW.out.bel⟩
  · have e2 : decide (sgl < 0) = false := decide_eq_false (by omega)
    have e3 : decide (4096 < sgl) = true := decide_eq_true g2
    go_enter Tryd.func3, Tryd.ntmps3
    go_wp2_with (go_at_call 4; refine (HB _).out.mono ?_; rintro e w4 ⟨rfl, hb⟩; have HW := Lib.hid (HS.out.below hb); have x0 : w4.cell? ⟨w.heap.size + 1, 0, none⟩ = some (.int .i64 sgl) := HW.out.bs.cell 0; have x6 : w4.cell? ⟨w.heap.size + 1, 6, none⟩ = some (.bool false) := HW.out.bs.cell 6; clear hb)
    go_ret
    exact ⟨rfl, HW.out.bel⟩
end Go.Proofs.YtoegmcakolidbaaDoor
