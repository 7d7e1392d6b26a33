/-
  bytes.Repeat of one byte ';'. No statement of the seat is proved here.
-/
import Derived.Test.YtoegmcakolidbaaDoorRows
import Derived.Test.YtoegmcakolidbaaDoorAmb
import Derived.Test.YtoegmcakolidbaaDoorShelf
import Derived.Lib.MakeNoZero
import Derived.Laws.CopyOwn
import Derived.Deep.RegionLaw
import Derived.Deep.LoopGhost
namespace Go.Proofs.YtoegmcakolidbaaDoor
open Go.RowKit
set_option linter.unusedVariables false
def V59 : Value := .int .u8 59
theorem splice_rep (bp m : Nat) (R : List Value) (hm : m ≤ R.length) : splice (List.replicate bp V59 ++ R) bp (List.replicate m V59) = List.replicate (bp + m) V59 ++ R.drop m := by
  unfold splice
  have e1 : (List.replicate bp V59 ++ R).take bp = List.replicate bp V59 := by rw [List.take_append_of_le_length (by simp)]; simp
  rw [e1, List.length_replicate, List.drop_append, List.length_replicate, List.drop_of_length_le (by simp), List.nil_append, ← List.append_assoc, List.replicate_append_replicate, Nat.add_sub_cancel_left]
/-- the row while it is filled -/
def GRp (L : Nat) (g : Nat) (w : World) (k : Nat) (v10 v11 : Value) (wr : World) : Prop := ∃ (bp : Nat) (R : List Value), v10 = .int .i64 bp ∧ 1 ≤ bp ∧ bp ≤ L ∧ L - bp ≤ k ∧ L ≤ bp + R.length ∧ wr.heap[g]? = some (.cells (List.replicate bp V59 ++ R).toArray 5 (0, 0)) ∧ Below g w wr
def IsRp (L : Nat) (w : World) (e : Ending) (w' : World) : Prop := ∃ g, e = .returned (.slice (some ⟨g, 0, none⟩) L L) ∧ w.heap.size ≤ g ∧ In .u8 w' (some ⟨g, 0, none⟩) (List.replicate L 59) ∧ Below w.heap.size w w'
set_option maxRecDepth 100000 in
set_option maxHeartbeats 4000000 in
theorem rp_any (b cap L : Nat) (w : World) (hc : w.cell? ⟨b, 0, none⟩ = some (.int .u8 59)) (hL0 : 1 ≤ L) (hL : L ≤ 4096) : Calls Tryd.prog 18 #[.slice (some ⟨b, 0, none⟩) 1 cap, .int .i64 L] w (IsRp L w) := by
  obtain ⟨cs, hrunM, hle, _⟩ := Lib.run_makeNoZero (P := Tryd.prog) w #[3] 22 5 Tryd.underlying22 L (by omega)
  have hcall : (callFunc 31 #[.int .i64 (L : Int)]).run Tryd.prog w = .ok (.value (.slice (some ⟨w.heap.size, 0, none⟩) L cs.size)) ((w.alloc (.cells cs 5)).drewN 2) := by
    rw [run_callFunc_extern Tryd.func31 (by kernel_rfl) (by kernel_rfl) (by kernel_rfl) (e := Extern.BytealgMakeNoZero.makeNoZero #[3] #[22]) (by kernel_rfl), hrunM]
    rfl
  clear hrunM
  have e1 : ((1 * L / 18446744073709551616 : Nat) : Int) = 0 := by omega
  have e2 : ((1 * L % 18446744073709551616 : Nat) : Int) = (L : Int) := by omega
  have HM : Hid (Calls Tryd.prog 30 #[.int .u64 1, .int .u64 L] w fun e w' => e = .returned (.tuple #[.int .u64 0, .int .u64 (L : Nat)]) ∧ w = w') := Lib.hid (by
    have := Tryd.bits_Mul 1 L (by omega) (by omega) w
    rw [e1, e2] at this
    exact this.mono (fun e w' h => ⟨h.1, h.2.symm⟩))
  have HC := Lib.hid hc
  clear e1 e2 hc
  have d0 : ((L : Int) == 0) = false := beq_eq_false_iff_ne.2 (by omega)
  have d1 : decide (L < 9223372036854775807) = true := decide_eq_true (by omega)
  have d2 : decide ((9223372036854775807 : Int) < (L : Int)) = false := decide_eq_false (by omega)
  have d5 : decide ((L : Int) < 0) = false := decide_eq_false (by omega)
  have d3 : decide ((8192 : Int) < (L : Int)) = false := decide_eq_false (by omega)
  have d4 : (L : Int) ≤ (cs.size : Int) := by omega
  go_enter Tryd.func18, Tryd.ntmps18
  go_upto_region 17 with (go_at_call 30; refine HM.out.mono ?_; rintro e w' ⟨rfl, rfl⟩)
  have HB0 : Hid (((w.alloc (.cells cs 5)).drewN 2).heap[w.heap.size]? = some (.cells cs.toList.toArray 5 (0, 0)) ∧ Below w.heap.size w ((w.alloc (.cells cs 5)).drewN 2) ∧ ((w.alloc (.cells cs 5)).drewN 2).cell? ⟨b, 0, none⟩ = some (.int .u8 59)) := Lib.hid ⟨by
      have := blk_new w (.cells cs 5)
      simpa using this, ((Below.refl _ w).alloc (Nat.le_refl _) _).trans ⟨rfl, rfl, rfl, Nat.le_refl _, fun _ _ => rfl⟩, cell_al HC.out⟩
  obtain ⟨g, hg⟩ : ∃ g, w.heap.size = g := ⟨_, rfl⟩
  obtain ⟨w1, hw1⟩ : ∃ w1, (w.alloc (.cells cs 5)).drewN 2 = w1 := ⟨_, rfl⟩
  rw [hw1, hg] at HB0
  rw [hw1, hg]
  have HG := Lib.hid hg
  clear hw1 hg hcall
  have hmin : Nat.min 1 L = 1 := Nat.min_eq_left hL0
  go_upto_region 18 with (refine wpList_copy_splice rfl (.tmp 58) (.tmp 59) 22 22 rfl 5 Tryd.underlying22 rfl _ _ _ _ _ _ rfl rfl g 0 cs.toList 5 HB0.out.1 [V59] hmin.symm (fun _ => ⟨rfl, _, rfl, fun j v hj => by
      match j, hj with
      | 0, hj => cases hj; exact HB0.out.2.2⟩) (by simpa using (show 1 ≤ cs.size by omega)) (by simp [V59, Value.oneCell']) g w HB0.out.2.1 (Nat.le_refl _) ?_; intro w2 h2 hb2; have H2 := Lib.hid (And.intro h2.out hb2); clear h2 hb2)
  go_loopg [10, 11] L (fun k a c wr => GRp L g w k a c wr)
  case atStart =>
    refine ⟨1, cs.toList.drop 1, rfl, Nat.le_refl _, hL0, by omega, by simp; omega, ?_, H2.out.2⟩
    rw [H2.out.1]
    simp [splice, List.replicate]
  case round =>
    obtain ⟨bp, R, rfl, h1, h2, hk, hR, hblk, hbel⟩ := hrel
    have HK := Lib.hid (And.intro hblk hbel)
    have HRR := Lib.hid hR
    clear hblk hbel
    rcases (show bp = L ∨ bp < L by omega) with rfl | hlt
    · clear hR
      go_wp2_with fail
      go_ret
      refine ⟨g, rfl, Nat.le_of_eq HG.out, .inr ⟨g, 0, rfl, blk_lt HK.out.1, fun i hi => ?_⟩, by rw [HG.out]; exact HK.out.2⟩
      rw [List.length_replicate] at hi
      rw [Nat.zero_add, blk_cell HK.out.1 i, nth_get _ _ (by simpa using hi)]
      simp [hi, V59, List.getElem?_append_left]
    · have hmn : min (bp : Int) (L : Int) = (bp : Int) := by omega
      have hsub : ((L : Int) - (bp : Int)).toNat = L - bp := by omega
      have hne : ¬ L = bp := by omega
      have hlt' : decide ((bp : Int) < (L : Int)) = true := decide_eq_true (by omega)
      obtain ⟨m, hm⟩ : ∃ m, Nat.min bp (L - bp) = m := ⟨_, rfl⟩
      have hmb : m ≤ bp ∧ m ≤ L - bp ∧ 1 ≤ m := by rw [← hm]; refine ⟨Nat.min_le_left _ _, Nat.min_le_right _ _, ?_⟩; exact Nat.le_min.2 ⟨h1, by omega⟩
      obtain ⟨hmb1, hmb2, hmb3⟩ := hmb
      have HM2 := Lib.hid hm
      clear hm
      have HFIT : Hid (bp + (List.replicate m V59).length ≤ (List.replicate bp V59 ++ R).length) := Lib.hid (by have := HRR.out; simp; omega)
      have HPOS : Hid (0 < (List.replicate m V59).length → some (⟨g, bp, none⟩ : Addr) = some ⟨g, bp, none⟩ ∧ ∃ ad, some (⟨g, 0, none⟩ : Addr) = some ad ∧ ∀ j v, (List.replicate m V59)[j]? = some v → wr.drew.cell? (ad.add j) = some v) := Lib.hid (fun _ => ⟨rfl, _, rfl, fun j v hj => by
        have hjm : j < m := by
          rcases Nat.lt_or_ge j m with h | h
          · exact h
          · rw [List.getElem?_eq_none (by simpa using h)] at hj; cases hj
        have ev : (⟨g, 0, none⟩ : Addr).add j = ⟨g, j, none⟩ := by unfold Addr.add; split <;> simp_all
        rw [ev]
        have : wr.drew.cell? ⟨g, j, none⟩ = wr.cell? ⟨g, j, none⟩ := rfl
        rw [this, blk_cell HK.out.1 j, ← hj]
        simp [hjm, show j < bp by omega, List.getElem?_append_left]⟩)
      have HONE : Hid (∀ v ∈ List.replicate m V59, v.oneCell' = true) := Lib.hid (fun v hv => by rw [List.eq_of_mem_replicate hv]; rfl)
      have HLEN : Hid ((List.replicate m V59).length = Nat.min bp (L - bp)) := Lib.hid (by simp [HM2.out])
      have hlm : ((List.replicate m V59).length : Int) = (m : Int) := by simp
      have hwr : IntKind.i64.wrap ((bp : Int) + (m : Int)) = (bp : Int) + (m : Int) := IntWalk.i64_in _ (by omega)
      go_upto_region 20 with fail
      have HBD : Hid (Below g w wr.drew) := Lib.hid (HK.out.2.trans ⟨rfl, rfl, rfl, Nat.le_refl _, fun _ _ => rfl⟩)
      have HBK : Hid (wr.drew.heap[g]? = some (.cells (List.replicate bp V59 ++ R).toArray 5 (0, 0))) := Lib.hid HK.out.1
      go_region_law (refine step_copy_splice rfl (.tmp 70) (.tmp 73) 22 22 rfl 5 Tryd.underlying22 rfl (some ⟨g, bp, none⟩) (some ⟨g, 0, none⟩) (L - bp) (L - bp) bp L (by simp [Act.eval, go_sem]) (by simp [Act.eval, go_sem]) g bp (List.replicate bp V59 ++ R) 5 HBK.out (List.replicate m V59) HLEN.out HPOS.out HFIT.out HONE.out g w HBD.out (Nat.le_refl _) ?_; intro w3 h3 hb3; rw [List.length_replicate]; have H3 := Lib.hid (And.intro h3.out hb3); clear h3 hb3)
      all_goals
        go_wp2_with fail
        go_roundg (L - (bp + m))
        case measure => omega
        case rel =>
          have hs := H3.out.1
          rw [splice_rep bp m R (by have := HRR.out; omega)] at hs
          exact ⟨bp + m, R.drop m, by first | go_num | (rw [hwr]; rfl) | (congr 1), by omega, by omega, Nat.le_refl _, by have := HRR.out; rw [List.length_drop]; omega, hs, H3.out.2⟩
end Go.Proofs.YtoegmcakolidbaaDoor
