/-
  Small functions of FnAppendChunk's law: the states' bounds, their copies, equal bytes. No statement of the seat is proved here.
-/
import Derived.Test.YtoegmcakolidbaaDoorSm
import Derived.Test.YtoegmcakolidbaaDoorCk
import Derived.Deep.CutBlock
import Derived.Deep.DeepCutAuto
import Derived.Deep.LoopGhost
import Derived.BigQuiet
namespace Go.Proofs.YtoegmcakolidbaaDoor
open Go.RowKit
set_option linter.unusedVariables false
/-- a state's cells, the flag b -/
def sCells (s : St) (b : Bool) : Array Value := #[.int .i64 s.gl, .int .i64 s.gc, .int .i64 s.si, .int .i64 s.ol, .int .i64 s.oc, .int .i64 s.on, .bool b]
def B24 (z : Int) : Prop := -16777216 ≤ z ∧ z ≤ 16777216
def OkS (s : St) : Prop := B24 s.gc ∧ B24 s.si ∧ B24 s.ol ∧ B24 s.oc ∧ B24 s.on
theorem so_any (s : St) (b : Bool) (w : World) : Calls Tryd.prog 5 #[.agg (sCells s b), .int .i64 16777216] w fun e w' => ((e = .returned (.bool true) ∧ OkS s) ∨ e = .returned (.bool false)) ∧ Below w.heap.size w w' := by
  obtain ⟨gl, gc, si, ol, oc, on⟩ := s
  unfold sCells
  simp only
  rcases (show gc < -16777216 ∨ 16777216 < gc ∨ (-16777216 ≤ gc ∧ gc ≤ 16777216) by omega) with h | h | ⟨gc1, gc2⟩
  · go_enter Tryd.func5, Tryd.ntmps5
    go_wp2_with fail
    go_ret
    exact ⟨.inr rfl, (Below.refl _ w).alloc (Nat.le_refl _) _⟩
  · have hb : decide (gc < -16777216) = false := decide_eq_false (by omega)
    go_enter Tryd.func5, Tryd.ntmps5
    go_wp2_with fail
    go_ret
    exact ⟨.inr rfl, (Below.refl _ w).alloc (Nat.le_refl _) _⟩
  have gc3 : decide (gc < -16777216) = false := decide_eq_false (by omega)
  have gc4 : decide (16777216 < gc) = false := decide_eq_false (by omega)
  rcases (show si < -16777216 ∨ 16777216 < si ∨ (-16777216 ≤ si ∧ si ≤ 16777216) by omega) with h | h | ⟨si1, si2⟩
  · go_enter Tryd.func5, Tryd.ntmps5
    go_wp2_with fail
    go_ret
    exact ⟨.inr rfl, (Below.refl _ w).alloc (Nat.le_refl _) _⟩
  · have hb : decide (si < -16777216) = false := decide_eq_false (by omega)
    go_enter Tryd.func5, Tryd.ntmps5
    go_wp2_with fail
    go_ret
    exact ⟨.inr rfl, (Below.refl _ w).alloc (Nat.le_refl _) _⟩
  have si3 : decide (si < -16777216) = false := decide_eq_false (by omega)
  have si4 : decide (16777216 < si) = false := decide_eq_false (by omega)
  rcases (show ol < -16777216 ∨ 16777216 < ol ∨ (-16777216 ≤ ol ∧ ol ≤ 16777216) by omega) with h | h | ⟨ol1, ol2⟩
  · go_enter Tryd.func5, Tryd.ntmps5
    go_wp2_with fail
    go_ret
    exact ⟨.inr rfl, (Below.refl _ w).alloc (Nat.le_refl _) _⟩
  · have hb : decide (ol < -16777216) = false := decide_eq_false (by omega)
    go_enter Tryd.func5, Tryd.ntmps5
    go_wp2_with fail
    go_ret
    exact ⟨.inr rfl, (Below.refl _ w).alloc (Nat.le_refl _) _⟩
  have ol3 : decide (ol < -16777216) = false := decide_eq_false (by omega)
  have ol4 : decide (16777216 < ol) = false := decide_eq_false (by omega)
  rcases (show oc < -16777216 ∨ 16777216 < oc ∨ (-16777216 ≤ oc ∧ oc ≤ 16777216) by omega) with h | h | ⟨oc1, oc2⟩
  · go_enter Tryd.func5, Tryd.ntmps5
    go_wp2_with fail
    go_ret
    exact ⟨.inr rfl, (Below.refl _ w).alloc (Nat.le_refl _) _⟩
  · have hb : decide (oc < -16777216) = false := decide_eq_false (by omega)
    go_enter Tryd.func5, Tryd.ntmps5
    go_wp2_with fail
    go_ret
    exact ⟨.inr rfl, (Below.refl _ w).alloc (Nat.le_refl _) _⟩
  have oc3 : decide (oc < -16777216) = false := decide_eq_false (by omega)
  have oc4 : decide (16777216 < oc) = false := decide_eq_false (by omega)
  rcases (show on < -16777216 ∨ 16777216 < on ∨ (-16777216 ≤ on ∧ on ≤ 16777216) by omega) with h | h | ⟨on1, on2⟩
  · go_enter Tryd.func5, Tryd.ntmps5
    go_wp2_with fail
    go_ret
    exact ⟨.inr rfl, (Below.refl _ w).alloc (Nat.le_refl _) _⟩
  · have hb : decide (on < -16777216) = false := decide_eq_false (by omega)
    go_enter Tryd.func5, Tryd.ntmps5
    go_wp2_with fail
    go_ret
    exact ⟨.inr rfl, (Below.refl _ w).alloc (Nat.le_refl _) _⟩
  have on3 : decide (on < -16777216) = false := decide_eq_false (by omega)
  have on4 : decide (16777216 < on) = false := decide_eq_false (by omega)
  go_enter Tryd.func5, Tryd.ntmps5
  go_wp2_with fail
  go_ret
  exact ⟨.inl ⟨rfl, ⟨gc1, gc2⟩, ⟨si1, si2⟩, ⟨ol1, ol2⟩, ⟨oc1, oc2⟩, ⟨on1, on2⟩⟩, (Below.refl _ w).alloc (Nat.le_refl _) _⟩
theorem tosm_any (s : St) (b : Bool) (w : World) : Calls Tryd.prog 12 #[.agg (sCells s b)] w fun e w' => e = .returned (.agg (sCells s b)) ∧ Below w.heap.size w w' := by
  obtain ⟨gl, gc, si, ol, oc, on⟩ := s
  unfold sCells
  simp only
  go_enter Tryd.func12, Tryd.ntmps12
  go_wp2_with fail
  have k := Blk.new (w.alloc (.cells #[.int .i64 gl, .int .i64 gc, .int .i64 si, .int .i64 ol, .int .i64 oc, .int .i64 on, .bool b] 24)) 42 #[.int .i64 gl, .int .i64 gc, .int .i64 si, .int .i64 ol, .int .i64 oc, .int .i64 on, .bool b]
  rw [show (w.alloc (.cells #[.int .i64 gl, .int .i64 gc, .int .i64 si, .int .i64 ol, .int .i64 oc, .int .i64 on, .bool b] 24)).heap.size = w.heap.size + 1 by simp] at k
  have hb := ((Below.refl _ w).alloc (Nat.le_refl _) (.cells #[.int .i64 gl, .int .i64 gc, .int .i64 si, .int .i64 ol, .int .i64 oc, .int .i64 on, .bool b] 24)).alloc (by simp) (.cells #[.int .i64 gl, .int .i64 gc, .int .i64 si, .int .i64 ol, .int .i64 oc, .int .i64 on, .bool b] 42)
  have c0 := k.cell 0
  have c1 := k.cell 1
  have c2 := k.cell 2
  have c3 := k.cell 3
  have c4 := k.cell 4
  have c5 := k.cell 5
  have c6 := k.cell 6
  simp only [List.getElem?_toArray, List.getElem?_cons_zero, List.getElem?_cons_succ] at c0 c1 c2 c3 c4 c5 c6
  obtain ⟨wf, hwf⟩ : ∃ wf, ((w.alloc (.cells #[.int .i64 gl, .int .i64 gc, .int .i64 si, .int .i64 ol, .int .i64 oc, .int .i64 on, .bool b] 24)).alloc (.cells #[.int .i64 gl, .int .i64 gc, .int .i64 si, .int .i64 ol, .int .i64 oc, .int .i64 on, .bool b] 42)) = wf := ⟨_, rfl⟩
  rw [hwf] at c0 c1 c2 c3 c4 c5 c6 hb ⊢
  exact bodyPost_ret (v := .agg #[.int .i64 gl, .int .i64 gc, .int .i64 si, .int .i64 ol, .int .i64 oc, .int .i64 on, .bool b]) (by simp [results, Tryd.results12, go_sem, c0, c1, c2, c3, c4, c5, c6]) rfl ⟨rfl, hb⟩
theorem buf_no (ao : Option Addr) (n cap : Nat) (w : World) : Calls Tryd.prog 13 #[.slice ao n cap, .int .i64 (-1)] w fun e w' => e = .returned (.agg #[.slice ao n cap, .int .u32 0]) ∧ Below w.heap.size w w' := by
  go_enter Tryd.func13, Tryd.ntmps13
  go_wp2_with fail
  have k := (Blk.new w 47 #[.slice ao n cap, .int .u32 0]).alloc (.cells #[.int .u32 0] 45)
  have hb := ((Below.refl _ w).alloc (Nat.le_refl _) (.cells #[.slice ao n cap, .int .u32 0] 47)).alloc (by simp) (.cells #[.int .u32 0] 45)
  have c0 := k.cell 0
  have c1 := k.cell 1
  simp only [List.getElem?_toArray, List.getElem?_cons_zero, List.getElem?_cons_succ] at c0 c1
  exact bodyPost_ret (v := .agg #[.slice ao n cap, .int .u32 0]) (by simp [results, Tryd.results13, go_sem, c0, c1]) rfl ⟨rfl, hb⟩
theorem buf_yes (ao : Option Addr) (n cap f : Nat) (w : World) (hf : f < 4294967296) : Calls Tryd.prog 13 #[.slice ao n cap, .int .i64 f] w fun e w' => e = .returned (.agg #[.slice ao n cap, .int .u32 ((4294967295 - f : Nat) : Int)]) ∧ Below w.heap.size w w' := by
  obtain ⟨j, hj⟩ : ∃ j, 4294967295 - f = j := ⟨_, rfl⟩
  have HM := fun w => Lib.hid (mk_any f w hf)
  rw [hj] at HM
  rw [hj]
  clear hj
  go_enter Tryd.func13, Tryd.ntmps13
  have HK : Hid (∀ w1, Below ((w.alloc (.cells #[.slice none 0 0, .int .u32 0] 47)).alloc (.cells #[.int .u32 0] 45)).heap.size ((w.alloc (.cells #[.slice none 0 0, .int .u32 0] 47)).alloc (.cells #[.int .u32 0] 45)) w1 → Blk w1 w.heap.size 47 #[.slice none 0 0, .int .u32 0] ∧ Blk w1 (w.heap.size + 1) 45 #[.int .u32 0] ∧ Below w.heap.size w w1) := Lib.hid (fun w1 hb1 => by
    have k1 := (Blk.new w 47 #[.slice none 0 0, .int .u32 0]).alloc (.cells #[.int .u32 0] 45)
    have k2 := Blk.new (w.alloc (.cells #[.slice none 0 0, .int .u32 0] 47)) 45 #[.int .u32 0]
    rw [show (w.alloc (.cells #[.slice none 0 0, .int .u32 0] 47)).heap.size = w.heap.size + 1 by simp] at k2
    exact ⟨k1.kept hb1, k2.kept hb1, (((Below.refl _ w).alloc (Nat.le_refl _) _).alloc (by simp) _).trans (hb1.mono (by simp; omega))⟩)
  go_wp2_with (go_at_call 26; refine (HM _).out.mono ?_; rintro e w1 ⟨rfl, hb1⟩; have HB := Lib.hid (HK.out w1 hb1); clear hb1; have c0 : w1.cell? ⟨w.heap.size, 0, none⟩ = some (.slice none 0 0) := HB.out.1.cell 0; have c1 : w1.cell? ⟨w.heap.size, 1, none⟩ = some (.int .u32 0) := HB.out.1.cell 1; have c2 : w1.cell? ⟨w.heap.size + 1, 0, none⟩ = some (.int .u32 0) := HB.out.2.1.cell 0; have f0 := HB.out.1.free; have f1 := HB.out.2.1.free)
  have q1 : Blk (((w1.setCell ⟨w.heap.size + 1, 0, none⟩ (.int .u32 (j : Nat))).setCell ⟨w.heap.size, 0, none⟩ (.slice ao n cap)).setCell ⟨w.heap.size, 1, none⟩ (.int .u32 (j : Nat))) w.heap.size 47 #[.slice ao n cap, .int .u32 (j : Nat)] :=
    ((HB.out.1.gb (gb_set (gb_refl w1 (some (w.heap.size + 1))) 0 none (.int .u32 (j : Nat))) (fun e => by have := Option.some.inj e; omega)).set 0 (.slice ao n cap)).set 1 (.int .u32 (j : Nat))
  have q2 : Below w.heap.size w (((w1.setCell ⟨w.heap.size + 1, 0, none⟩ (.int .u32 (j : Nat))).setCell ⟨w.heap.size, 0, none⟩ (.slice ao n cap)).setCell ⟨w.heap.size, 1, none⟩ (.int .u32 (j : Nat))) :=
    ((HB.out.2.2.setCell (p := ⟨w.heap.size + 1, 0, none⟩) (Nat.le_succ _) _).setCell (p := ⟨w.heap.size, 0, none⟩) (Nat.le_refl _) _).setCell (p := ⟨w.heap.size, 1, none⟩) (Nat.le_refl _) _
  obtain ⟨wf, hwf⟩ : ∃ wf, (((w1.setCell ⟨w.heap.size + 1, 0, none⟩ (.int .u32 (j : Nat))).setCell ⟨w.heap.size, 0, none⟩ (.slice ao n cap)).setCell ⟨w.heap.size, 1, none⟩ (.int .u32 (j : Nat))) = wf := ⟨_, rfl⟩
  rw [hwf] at q1 q2 ⊢
  have d0 := q1.cell 0
  have d1 := q1.cell 1
  simp only [List.getElem?_toArray, List.getElem?_cons_zero, List.getElem?_cons_succ] at d0 d1
  exact bodyPost_ret (v := .agg #[.slice ao n cap, .int .u32 (j : Nat)]) (by simp [results, Tryd.results13, go_sem, d0, d1]) rfl ⟨rfl, q2⟩
theorem sm_any (ao bo : Option Addr) (n ca cb : Nat) (xs : List Int) (w : World) (hn : xs.length = n) (ha : In .u8 w ao xs) (hb : In .u8 w bo xs) (hl : n ≤ 1048576) :
    Calls Tryd.prog 15 #[.slice ao n ca, .slice bo n cb] w fun e w' => e = .returned (.bool true) ∧ ∃ m, w' = w.drewN m := by
  have HI := Lib.hid (And.intro ha (And.intro hb hn))
  clear ha hb hn
  go_enter Tryd.func15, Tryd.ntmps15
  go_wp2_with fail
  go_loopg [5] n (fun g a wr => ∃ j m : Nat, a = .int .i64 j ∧ j ≤ n ∧ n - j ≤ g ∧ wr = w.drewN m)
  case atStart => exact ⟨0, 0, rfl, Nat.zero_le _, Nat.le_refl _, rfl⟩
  case round =>
    obtain ⟨j, mm, rfl, hj, hjg, hwr⟩ := hrel
    rcases (show j = n ∨ j < n by omega) with rfl | hjn
    · have HW := Lib.hid hwr
      clear hwr
      go_wp2_with fail
      go_ret
      exact ⟨rfl, mm, HW.out⟩
    · obtain ⟨b, off, hx, hb, hc⟩ := HI.out.1.at (i := j) (by rw [HI.out.2.2]; exact hjn)
      subst hx
      obtain ⟨b', off', hx, hb', hc'⟩ := HI.out.2.1.at (i := j) (by rw [HI.out.2.2]; exact hjn)
      subst hx
      obtain ⟨z, hz⟩ : ∃ z, nth xs j = z := ⟨_, rfl⟩
      rw [hz] at hc hc'
      have hc : wr.cell? ⟨b, off + j, none⟩ = some (.int .u8 z) := by rw [hwr]; exact hc
      have hc' : wr.cell? ⟨b', off' + j, none⟩ = some (.int .u8 z) := by rw [hwr]; exact hc'
      have hzz : (z != z) = false := by simp
      have HW := Lib.hid hwr
      have i0 : (0 : Int) ≤ (j : Int) := by omega
      have i1 : (j : Int) < (n : Int) := by omega
      clear hz hwr
      go_wp2
      go_quiet (fail)
      clear hc hc'
      go_wp2_with fail
      go_roundg (n - (j + 1))
      case measure => omega
      case rel => exact ⟨j + 1, _, by go_num, hjn, Nat.le_refl _, by rw [HW.out]; simp; rfl⟩
end Go.Proofs.YtoegmcakolidbaaDoor
