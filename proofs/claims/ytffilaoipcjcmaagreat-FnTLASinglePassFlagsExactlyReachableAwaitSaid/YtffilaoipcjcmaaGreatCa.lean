/-
  The law's copies, its bounds, the number of edges. No statement of the seat is proved here.
-/
import Derived.Test.YtffilaoipcjcmaaGreatSm
import Derived.Test.YtffilaoipcjcmaaGreatBz
import Derived.Test.YtffilaoipcjcmaaGreatDp
import Derived.WalkLawsBesides
import Derived.LoopTactic
import Derived.Deep.RegionHeld3
namespace Go.Proofs.YtffilaoipcjcmaaGreat
open Go.RowKit Go.ChangeShapes Go.WideShapes
set_option linter.unusedVariables false
set_option linter.unusedSimpArgs false

theorem c7_info : (Tryz.prog.info? 25).map (fun i => (i.zero, i.size, i.bytes)) = some (some (.int .u16 0), 1, 2) := by kernel_rfl
theorem c7_any (ao : Option Addr) (cap : Nat) (zs : List Int) (w : World) (hin : In .u16 w ao zs) (hl : zs.length ≤ 1048576) :
    Calls Tryz.prog 7 #[.slice ao zs.length cap] w (Cloned .u16 25 w zs) := by
  have hnil := fun (w : World) => Lib.run_eql_slice_nil (P := Tryz.prog) w 23 25 ao zs.length cap 0 0 Tryz.underlying23
  rcases ao with _ | x
  · have hz : zs = [] := by
      rcases hin with h | ⟨b, off, h, _⟩
      · exact h
      · cases h
    subst hz
    clear hin hl
    simp only [List.length_nil, Option.isNone_none] at hnil
    go_enter Tryz.func7, Tryz.ntmps7
    go_wp2
    go_ret
    exact ⟨_, _, rfl, .inl rfl, Below.refl _ _⟩
  · have HI := Lib.hid hin
    clear hin
    go_enter Tryz.func7, Tryz.ntmps7
    go_wp2_with (at_make; refine wpList_make_ints _ rfl _ _ 23 rfl 25 .u16 2 Tryz.underlying23 c7_info zs.length rfl rfl (by omega) (by unfold maxLen; omega) ?_; intro w1 hb hgr)
    have hb1 : Below w.heap.size w w1 := (Below.refl _ w).grown hgr (Nat.le_refl _) (fun k h => by cases h)
    have HB := Lib.hid (And.intro hb hb1)
    clear hb hgr hb1
    go_loopw [4] (fun i wr => ∃ k : Nat, k ≤ zs.length ∧ i = .int .i64 k ∧ Blk wr w.heap.size 25 (ints .u16 (cpy zs k)) ∧ Below w.heap.size w wr) (fun i _ => zs.length - (intOf i).toNat)
    case atStart => exact ⟨0, Nat.zero_le _, rfl, by rw [cpy_zero]; exact HB.out.1, HB.out.2⟩
    case round =>
      obtain ⟨k, hk, rfl, hB, hbel⟩ := hrel
      rcases (show k = zs.length ∨ k < zs.length by omega) with rfl | hlt
      · rw [cpy_end] at hB
        have HF := Lib.hid (And.intro hB hbel)
        clear hB hbel
        go_wp2
        go_ret
        exact ⟨_, _, rfl, .inr ⟨_, rfl, Nat.le_refl _, HF.out.1⟩, HF.out.2⟩
      · obtain ⟨b, off, hx, hblt, hc⟩ := HI.out.at hlt
        cases hx
        have hc' := (hbel.cell (p := ⟨b, off + k, none⟩) hblt).trans hc
        have hcl := cpy_length zs k hk
        have hs := hB.int (i := k) (by omega)
        have hf := hB.free k
        have hB2 := hB.put k (nth zs k)
        rw [cpy_step zs k hlt] at hB2
        have HN := Lib.hid (And.intro hB2 (hbel.setCell (p := ⟨w.heap.size, k, none⟩) (Nat.le_refl _) (.int .u16 (nth zs k))))
        clear hB hbel hB2 hc hcl
        go_wp2
        go_roundw
        case rel => exact ⟨k + 1, by omega, by go_num, HN.out.1, HN.out.2⟩
        case measure => simp [intOf]; omega

theorem c8_info : (Tryz.prog.info? 5).map (fun i => (i.zero, i.size, i.bytes)) = some (some (.int .u8 0), 1, 1) := by kernel_rfl
theorem c8_any (ao : Option Addr) (cap : Nat) (zs : List Int) (w : World) (hin : In .u8 w ao zs) (hl : zs.length ≤ 1048576) :
    Calls Tryz.prog 8 #[.slice ao zs.length cap] w (Cloned .u8 5 w zs) := by
  have hnil := fun (w : World) => Lib.run_eql_slice_nil (P := Tryz.prog) w 24 5 ao zs.length cap 0 0 Tryz.underlying24
  rcases ao with _ | x
  · have hz : zs = [] := by
      rcases hin with h | ⟨b, off, h, _⟩
      · exact h
      · cases h
    subst hz
    clear hin hl
    simp only [List.length_nil, Option.isNone_none] at hnil
    go_enter Tryz.func8, Tryz.ntmps8
    go_wp2
    go_ret
    exact ⟨_, _, rfl, .inl rfl, Below.refl _ _⟩
  · have HI := Lib.hid hin
    clear hin
    go_enter Tryz.func8, Tryz.ntmps8
    go_wp2_with (at_make; refine wpList_make_ints _ rfl _ _ 24 rfl 5 .u8 1 Tryz.underlying24 c8_info zs.length rfl rfl (by omega) (by unfold maxLen; omega) ?_; intro w1 hb hgr)
    have hb1 : Below w.heap.size w w1 := (Below.refl _ w).grown hgr (Nat.le_refl _) (fun k h => by cases h)
    have HB := Lib.hid (And.intro hb hb1)
    clear hb hgr hb1
    go_loopw [4] (fun i wr => ∃ k : Nat, k ≤ zs.length ∧ i = .int .i64 k ∧ Blk wr w.heap.size 5 (ints .u8 (cpy zs k)) ∧ Below w.heap.size w wr) (fun i _ => zs.length - (intOf i).toNat)
    case atStart => exact ⟨0, Nat.zero_le _, rfl, by rw [cpy_zero]; exact HB.out.1, HB.out.2⟩
    case round =>
      obtain ⟨k, hk, rfl, hB, hbel⟩ := hrel
      rcases (show k = zs.length ∨ k < zs.length by omega) with rfl | hlt
      · rw [cpy_end] at hB
        have HF := Lib.hid (And.intro hB hbel)
        clear hB hbel
        go_wp2
        go_ret
        exact ⟨_, _, rfl, .inr ⟨_, rfl, Nat.le_refl _, HF.out.1⟩, HF.out.2⟩
      · obtain ⟨b, off, hx, hblt, hc⟩ := HI.out.at hlt
        cases hx
        have hc' := (hbel.cell (p := ⟨b, off + k, none⟩) hblt).trans hc
        have hcl := cpy_length zs k hk
        have hs := hB.int (i := k) (by omega)
        have hf := hB.free k
        have hB2 := hB.put k (nth zs k)
        rw [cpy_step zs k hlt] at hB2
        have HN := Lib.hid (And.intro hB2 (hbel.setCell (p := ⟨w.heap.size, k, none⟩) (Nat.le_refl _) (.int .u8 (nth zs k))))
        clear hB hbel hB2 hc hcl
        go_wp2
        go_roundw
        case rel => exact ⟨k + 1, by omega, by go_num, HN.out.1, HN.out.2⟩
        case measure => simp [intOf]; omega

theorem below_of {w w' : World} (h : w.grownBy w' none) : Below w.heap.size w w' := ⟨h.os, h.tape, h.output, h.size, fun i hi => h.block i hi (by simp)⟩
theorem zinfo4 : (Tryz.prog.info? 4).map (fun i => (i.zero, i.size, i.bytes)) = some (some (.bool false), 1, 1) := by kernel_rfl
/-- a copied row of bools -/
def ClonedB (w : World) (bs : List Bool) (en : Ending) (w' : World) : Prop := ∃ ao cap, en = .returned (.slice ao bs.length cap) ∧ InB w' ao bs ∧ Below w.heap.size w w'
theorem bs_any (ao : Option Addr) (cap : Nat) (bs : List Bool) (w : World) (hin : InB w ao bs) (hl : bs.length ≤ 1048576) :
    Calls Tryz.prog 6 #[.slice ao bs.length cap] w (ClonedB w bs) := by
  have hnil := fun (w : World) => Lib.run_eql_slice_nil (P := Tryz.prog) w 22 4 ao bs.length cap 0 0 Tryz.underlying22
  rcases ao with _ | x
  · have hz : bs = [] := by
      rcases hin with h | ⟨b, off, h, _⟩
      · exact h
      · cases h
    subst hz
    clear hin hl
    simp only [List.length_nil, Option.isNone_none] at hnil
    go_enter Tryz.func6, Tryz.ntmps6
    go_wp2
    go_ret
    exact ⟨_, _, rfl, .inl rfl, Below.refl _ _⟩
  · have HI := Lib.hid hin
    clear hin
    obtain ⟨m, hm⟩ : ∃ m, bs.length = m := ⟨_, rfl⟩
    rw [hm] at hnil hl ⊢
    have HM := Lib.hid hm
    clear hm
    obtain ⟨L, hL⟩ : ∃ L, w.heap.size = L := ⟨_, rfl⟩
    have HL := Lib.hid hL
    go_enter Tryz.func6, Tryz.ntmps6
    go_wp2_with (at_make; refine wpList_make_blk w rfl _ _ 22 rfl 4 (.bool false) 1 1 Tryz.underlying22 zinfo4 m rfl rfl (by omega) (by unfold maxLen; omega) ?_; intro w1 hb hgr; rw [hL] at hb; have HB := Lib.hid (And.intro hb hgr); clear hb hgr)
    try rw [hL]
    clear hL
    go_loopg [4] m (fun kk x wx => ∃ j : Nat, x = .int .i64 (j : Int) ∧ j ≤ m ∧ m - j ≤ kk ∧ Hid (∃ qs, Blk wx L 4 qs ∧ qs.size = m ∧ w.grownBy wx none ∧ ∀ v, v < j → qs[v]? = some (.bool (bs.getD v false))))
    case atStart => exact ⟨0, rfl, by omega, by omega, Lib.hid ⟨_, HB.out.1, by simp [madeCells, Value.cells], HB.out.2, fun v hv => by omega⟩⟩
    case round =>
      obtain ⟨j, rfl, hj, hjk, HJ⟩ := hrel
      obtain ⟨wy, rfl⟩ : ∃ wy : World, wy = wr := ⟨_, rfl⟩
      obtain ⟨qs, u1, u2, u3, u4⟩ := HJ.out
      rcases (show m = j ∨ j < m by omega) with he | hltj
      · subst he
        have HU := Lib.hid (And.intro u1 (And.intro u3 u4))
        clear u1 u2 u3 u4
        go_wp2_with fail
        go_ret
        refine ⟨some ⟨L, 0, none⟩, m, by rw [HM.out]; rfl, .inr ⟨L, 0, rfl, HU.out.1.lt, fun i hi => ?_⟩, below_of HU.out.2.1⟩
        rw [Nat.zero_add]
        exact (HU.out.1.cell i).trans (HU.out.2.2 i (by rw [HM.out] at hi; exact hi))
      · obtain ⟨b2, off2, e1, lb2, cb⟩ := (HI.out.kept (below_of u3)).at (i := j) (by rw [HM.out]; exact hltj)
        cases e1
        have f1 := u1.free j
        obtain ⟨v1, k1⟩ := u1.has (i := j) (by omega)
        have lL := u1.lt
        obtain ⟨t, ht⟩ : ∃ t, bs.getD j false = t := ⟨_, rfl⟩
        rw [ht] at cb
        have HU := Lib.hid (And.intro u1 (And.intro u2 (And.intro u3 (And.intro u4 ht))))
        clear u1 u2 u3 u4 ht
        go_wp2_with fail
        go_roundg (gk - 1)
        case measure => omega
        case rel =>
          obtain ⟨u1, u2, u3, u4, ht⟩ := HU.out
          have hgs : wy.grownBy (wy.setCell ⟨L, j, none⟩ (.bool t)) (some L) := gb_set (gb_refl _ _) _ _ _
          refine ⟨j + 1, by go_num, by omega, by omega, Lib.hid ⟨_, u1.set j (.bool t), by simp [u2], gb_new (gb_trans (gb_none u3) hgs) (by rw [HL.out]; exact Nat.le_refl _), fun v hv => ?_⟩⟩
          rcases (show v < j ∨ v = j by omega) with h | rfl
          · rw [Array.getElem?_setIfInBounds_ne (by omega)]; exact u4 v h
          · rw [ht]; exact Array.getElem?_setIfInBounds_self_of_lt (by omega)
def ZbB (e : Ending) : Prop := ∃ b : Bool, e = .returned (.bool b)
set_option maxHeartbeats 4000000 in
set_option maxRecDepth 100000 in
theorem zb_any (a0 a1 a2 a3 a4 : Option Addr) (l0 c0 l1 c1 l2 c2 l3 c3 l4 c4 : Nat) (a b : Int) (w : World) :
    Calls Tryz.prog 4 #[.slice a0 l0 c0, .slice a1 l1 c1, .slice a2 l2 c2, .slice a3 l3 c3, .slice a4 l4 c4, .int .u16 a, .int .u32 b] w fun e w' => ZbB e ∧ w' = w := by
  by_cases h0 : (1048576 : Int) < l0
  · go_enter Tryz.func4, Tryz.ntmps4
    go_wp2_with fail
    go_ret
    exact ⟨⟨_, rfl⟩, rfl⟩
  by_cases h1 : (1048576 : Int) < l1
  · go_enter Tryz.func4, Tryz.ntmps4
    go_wp2_with fail
    go_ret
    exact ⟨⟨_, rfl⟩, rfl⟩
  by_cases h2 : (1048576 : Int) < (l0 : Int) + l1
  · go_enter Tryz.func4, Tryz.ntmps4
    go_wp2_with fail
    go_ret
    exact ⟨⟨_, rfl⟩, rfl⟩
  by_cases h3 : (1048576 : Int) < l2
  · go_enter Tryz.func4, Tryz.ntmps4
    go_wp2_with fail
    go_ret
    exact ⟨⟨_, rfl⟩, rfl⟩
  by_cases h4 : (1048576 : Int) < (l0 : Int) + l1 + l2
  · go_enter Tryz.func4, Tryz.ntmps4
    go_wp2_with fail
    go_ret
    exact ⟨⟨_, rfl⟩, rfl⟩
  by_cases h5 : (1048576 : Int) < l3
  · go_enter Tryz.func4, Tryz.ntmps4
    go_wp2_with fail
    go_ret
    exact ⟨⟨_, rfl⟩, rfl⟩
  by_cases h6 : (1048576 : Int) < (l0 : Int) + l1 + l2 + l3
  · go_enter Tryz.func4, Tryz.ntmps4
    go_wp2_with fail
    go_ret
    exact ⟨⟨_, rfl⟩, rfl⟩
  by_cases h7 : (1048576 : Int) < l4
  · go_enter Tryz.func4, Tryz.ntmps4
    go_wp2_with fail
    go_ret
    exact ⟨⟨_, rfl⟩, rfl⟩
  by_cases h8 : (1048576 : Int) < (l0 : Int) + l1 + l2 + l3 + l4
  · go_enter Tryz.func4, Tryz.ntmps4
    go_wp2_with fail
    go_ret
    exact ⟨⟨_, rfl⟩, rfl⟩
  go_enter Tryz.func4, Tryz.ntmps4
  go_wp2_with fail
  go_ret
  exact ⟨⟨_, rfl⟩, rfl⟩
def TbB (l0 l1 l2 l3 l4 : Nat) (e : Ending) : Prop := ∃ b : Bool, e = .returned (.bool b) ∧ (b = false → l0 ≤ 4096 ∧ l1 ≤ 4096 ∧ l2 ≤ 4096 ∧ l3 ≤ 4096 ∧ l4 ≤ 4096)
set_option maxHeartbeats 4000000 in
set_option maxRecDepth 100000 in
theorem tb_any (a0 a1 a2 a3 a4 : Option Addr) (l0 c0 l1 c1 l2 c2 l3 c3 l4 c4 : Nat) (w : World) :
    Calls Tryz.prog 5 #[.slice a0 l0 c0, .slice a1 l1 c1, .slice a2 l2 c2, .slice a3 l3 c3, .slice a4 l4 c4] w fun e w' => TbB l0 l1 l2 l3 l4 e ∧ w' = w := by
  by_cases h0 : (4096 : Int) < l0
  · go_enter Tryz.func5, Tryz.ntmps5
    go_wp2_with fail
    go_ret
    exact ⟨⟨_, rfl, by simp⟩, rfl⟩
  by_cases h1 : (4096 : Int) < l1
  · go_enter Tryz.func5, Tryz.ntmps5
    go_wp2_with fail
    go_ret
    exact ⟨⟨_, rfl, by simp⟩, rfl⟩
  by_cases h3 : (4096 : Int) < l2
  · go_enter Tryz.func5, Tryz.ntmps5
    go_wp2_with fail
    go_ret
    exact ⟨⟨_, rfl, by simp⟩, rfl⟩
  by_cases h5 : (4096 : Int) < l3
  · go_enter Tryz.func5, Tryz.ntmps5
    go_wp2_with fail
    go_ret
    exact ⟨⟨_, rfl, by simp⟩, rfl⟩
  by_cases h7 : (4096 : Int) < l4
  · go_enter Tryz.func5, Tryz.ntmps5
    go_wp2_with fail
    go_ret
    exact ⟨⟨_, rfl, by simp⟩, rfl⟩
  have HB : Hid (l0 ≤ 4096 ∧ l1 ≤ 4096 ∧ l2 ≤ 4096 ∧ l3 ≤ 4096 ∧ l4 ≤ 4096) := Lib.hid (by omega)
  go_enter Tryz.func5, Tryz.ntmps5
  go_wp2_with fail
  go_ret
  exact ⟨⟨_, rfl, fun _ => HB.out⟩, rfl⟩
set_option maxRecDepth 100000 in
theorem ec_any (a0 a1 a2 : Option Addr) (l0 c0 l1 c1 l2 c2 : Nat) (w : World) :
    Calls Tryz.prog 9 #[.slice a0 l0 c0, .slice a1 l1 c1, .slice a2 l2 c2] w fun e w' => e = .returned (.int .i64 ((min (min l0 l1) l2 : Nat) : Int)) ∧ w' = w := by
  rcases (show (l1 < l0 ∧ min l0 l1 = l1) ∨ (¬ l1 < l0 ∧ min l0 l1 = l0) by omega) with ⟨h1, e1⟩ | ⟨h1, e1⟩
  all_goals
    rw [e1]
  · rcases (show (l2 < l1 ∧ min l1 l2 = l2) ∨ (¬ l2 < l1 ∧ min l1 l2 = l1) by omega) with ⟨h2, e2⟩ | ⟨h2, e2⟩
    all_goals
      rw [e2]
      clear e1 e2
      have d1 : decide (l1 < l0) = true := by simp [h1]
      first | (have d2 : decide (l2 < l1) = true := by simp [h2]; done) | (have d2 : decide (l2 < l1) = false := by simp [h2]; done) | skip
      go_enter Tryz.func9, Tryz.ntmps9
      go_wp2_with fail
      go_ret
      exact ⟨rfl, rfl⟩
  · rcases (show (l2 < l0 ∧ min l0 l2 = l2) ∨ (¬ l2 < l0 ∧ min l0 l2 = l0) by omega) with ⟨h2, e2⟩ | ⟨h2, e2⟩
    all_goals
      rw [e2]
      clear e1 e2
      go_enter Tryz.func9, Tryz.ntmps9
      go_wp2_with fail
      go_ret
      exact ⟨rfl, rfl⟩
end Go.Proofs.YtffilaoipcjcmaaGreat
