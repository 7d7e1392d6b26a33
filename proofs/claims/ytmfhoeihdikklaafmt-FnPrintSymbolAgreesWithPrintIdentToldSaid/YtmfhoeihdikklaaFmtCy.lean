/-
  The law's copies of its slices. No statement of the seat is proved here.
-/
import Derived.Test.YtmfhoeihdikklaaFmtOwnCopy
import Derived.Test.YtmfhoeihdikklaaFmtStrs
import Derived.Test.YtmfhoeihdikklaaFmtPr
import Derived.Lib.SliceRun
import Derived.Deep.DeepCutAuto
import Derived.Deep.CutBlock
namespace Go.Proofs.YtmfhoeihdikklaaFmt
open Go.RowKit
set_option linter.unusedVariables false
set_option linter.unusedSimpArgs false

theorem wpList_copy_strs {P : Program} (w : World) {ops : Array Oper} {rest : List Oper} {o : Oper} {a : Act} {Q : Exit → Act → World → Prop} (hgd : o.guard = none) (d s : Operand) (t : TypeId)
    (ho : o.op = .call { callee := .builtin .copy, args := #[d, s], argTypes := #[t, t] }) (e : TypeId) (hu : P.underlying t = some (.slice e)) (hsz : (P.info? e).map (·.size) = some 1)
    (g dc sc n : Nat) (ao : Option Addr) (zs ys : List ByteArray) (hn : zs.length = n) (hd : a.eval d = .slice (some ⟨g, 0, none⟩) n dc) (hs : a.eval s = .slice ao n sc) (hg : Blk w g e (strs ys)) (hy : ys.length = n) (hin : InS w ao zs)
    (B : Nat) (w0 : World) (hb : Below B w0 w) (hBg : B ≤ g)
    (h : ∀ w', Blk w' g e (strs zs) → Below B w0 w' → wpList P ops Q rest (a.put o.dst (goInt n)) w') : wpList P ops Q (o :: rest) a w := by
  have hl : (zs.map Value.string).length = n := by simp [hn]
  have hly : (ys.map Value.string).length = n := by simp [hy]
  refine wpList_copy_splice hgd d s t t ho e hu hsz _ _ _ _ _ _ hd hs g 0 (ys.map Value.string) e hg (zs.map Value.string) (by rw [hl]; exact (Nat.min_self _).symm) (fun hp => ⟨rfl, ?_⟩) (by rw [hl, hly]; omega) (fun v hv => ?_) B w0 hb hBg ?_
  · rw [hl] at hp
    rcases hin with hz | ⟨b, off, hx, _, hc⟩
    · rw [hz] at hn; simp at hn; omega
    · refine ⟨⟨b, off, none⟩, hx, fun j v hj => ?_⟩
      have hjl : j < zs.length := by
        rcases Nat.lt_or_ge j zs.length with h | h
        · exact h
        · rw [List.getElem?_eq_none (by rw [hl]; omega)] at hj; cases hj
      rw [List.getElem?_map, tth_some zs j hjl] at hj
      have e1 : (⟨b, off, none⟩ : Addr).add j = ⟨b, off + j, none⟩ := by unfold Addr.add; split <;> simp_all
      rw [e1, hc j hjl]
      exact hj
  · simp only [List.mem_map] at hv
    obtain ⟨z, _, rfl⟩ := hv
    rfl
  · intro w' h1 h2
    rw [hl]
    refine h w' ?_ h2
    have h3 := h1.out
    have e2 : splice (ys.map Value.string) 0 (zs.map Value.string) = zs.map Value.string := by
      unfold splice
      rw [List.take_zero, List.nil_append, Nat.zero_add, List.drop_eq_nil_of_le (by rw [hl, hly]; omega), List.append_nil]
    rw [e2] at h3
    exact h3
theorem own_blk {w : World} {g n B : Nat} {zs : List Int} (hn : zs.length = n) (hb : Blk w g 5 (ints .u8 zs)) (hB : B ≤ g) (hm : n ≤ maxLen) : Own .u8 5 w B (.slice (some ⟨g, 0, none⟩) n n) zs := by
  subst hn
  refine ⟨by simp [row], .inr ⟨g, _, _, rfl, hB, hb, Nat.le_refl _, hm, by simp [ints, row], ?_⟩⟩
  rw [List.take_of_length_le (by simp [ints, row])]
  simp [ints, row]
/-- a copy of bytes -/
def CpB (w : World) (zs : List Int) (n : Nat) (e : Ending) (w' : World) : Prop := ∃ ao c, e = .returned (.slice ao n c) ∧ In .u8 w' ao zs ∧ Own .u8 5 w' w.heap.size (.slice ao n c) zs ∧ Below w.heap.size w w'
theorem u8i : (Tryf.prog.info? 5).map (fun i => (i.zero, i.size, i.bytes)) = some (some (.int .u8 0), 1, 1) := by kernel_rfl
theorem u8s : (Tryf.prog.info? 5).map (·.size) = some 1 := by kernel_rfl
theorem u32i : (Tryf.prog.info? 25).map (fun i => (i.zero, i.size, i.bytes)) = some (some (.int .u32 0), 1, 4) := by kernel_rfl
theorem u32s : (Tryf.prog.info? 25).map (·.size) = some 1 := by kernel_rfl
theorem sts : (Tryf.prog.info? 9).map (·.size) = some 1 := by kernel_rfl
set_option maxRecDepth 100000 in
theorem cpb_any (ao : Option Addr) (n cap : Nat) (zs : List Int) (hn : zs.length = n) (w : World) (hin : In .u8 w ao zs) (hl : n ≤ 1048576) :
    Calls Tryf.prog 7 #[.slice ao n cap] w (CpB w zs n) := by
  subst hn
  have hnil := fun (w : World) => Lib.run_eql_slice_nil (P := Tryf.prog) w 22 5 ao zs.length cap 0 0 Tryf.underlying22
  rcases ao with _ | x
  · have hz : zs = [] := by
      rcases hin with h | ⟨b, off, h, _⟩
      · exact h
      · cases h
    subst hz
    clear hin hl
    simp only [List.length_nil, Option.isNone_none] at hnil
    go_enter Tryf.func7, Tryf.ntmps7
    go_wp2
    go_ret
    exact ⟨_, _, rfl, .inl rfl, Own.nil _ _ _ _, Below.refl _ _⟩
  · have HI := Lib.hid hin
    clear hin
    go_enter Tryf.func7, Tryf.ntmps7
    go_upto_region 4 with (at_make; refine wpList_make_ints _ rfl _ _ 22 rfl 5 .u8 1 Tryf.underlying22 u8i zs.length rfl rfl (by omega) (by unfold maxLen; omega) ?_; intro w1 hb hgr)
    have hb1 : Below w.heap.size w w1 := (Below.refl _ w).grown hgr (Nat.le_refl _) (fun k h => by cases h)
    have HB := Lib.hid (And.intro hb hb1)
    clear hb hgr hb1
    go_wp2_with (refine wpList_copy_ints w1 rfl (.tmp 9) (.tmp 10) 22 rfl 5 .u8 Tryf.underlying22 u8s w.heap.size zs.length cap (some x) zs (List.replicate zs.length 0) rfl rfl HB.out.1 (by simp) (HI.out.kept HB.out.2) w.heap.size w HB.out.2 (Nat.le_refl _) ?_; intro w2 hb2 hbel2; have H2 := Lib.hid (And.intro hb2 hbel2); clear hb2 hbel2)
    go_ret
    refine ⟨_, _, rfl, .inr ⟨_, 0, rfl, H2.out.1.lt, fun i hi => ?_⟩, own_blk rfl H2.out.1 (Nat.le_refl _) (by unfold maxLen; omega), H2.out.2⟩
    rw [Nat.zero_add]
    exact H2.out.1.int hi
def CpU (w : World) (zs : List Int) (n : Nat) (e : Ending) (w' : World) : Prop := ∃ ao c, e = .returned (.slice ao n c) ∧ In .u32 w' ao zs ∧ Below w.heap.size w w'
set_option maxRecDepth 100000 in
theorem cpu_any (ao : Option Addr) (n cap : Nat) (zs : List Int) (hn : zs.length = n) (w : World) (hin : In .u32 w ao zs) (hl : n ≤ 1048576) :
    Calls Tryf.prog 9 #[.slice ao n cap] w (CpU w zs n) := by
  subst hn
  have hnil := fun (w : World) => Lib.run_eql_slice_nil (P := Tryf.prog) w 24 25 ao zs.length cap 0 0 Tryf.underlying24
  rcases ao with _ | x
  · have hz : zs = [] := by
      rcases hin with h | ⟨b, off, h, _⟩
      · exact h
      · cases h
    subst hz
    clear hin hl
    simp only [List.length_nil, Option.isNone_none] at hnil
    go_enter Tryf.func9, Tryf.ntmps9
    go_wp2
    go_ret
    exact ⟨_, _, rfl, .inl rfl, Below.refl _ _⟩
  · have HI := Lib.hid hin
    clear hin
    go_enter Tryf.func9, Tryf.ntmps9
    go_upto_region 4 with (at_make; refine wpList_make_ints _ rfl _ _ 24 rfl 25 .u32 4 Tryf.underlying24 u32i zs.length rfl rfl (by omega) (by unfold maxLen; omega) ?_; intro w1 hb hgr)
    have hb1 : Below w.heap.size w w1 := (Below.refl _ w).grown hgr (Nat.le_refl _) (fun k h => by cases h)
    have HB := Lib.hid (And.intro hb hb1)
    clear hb hgr hb1
    go_wp2_with (refine wpList_copy_ints w1 rfl (.tmp 9) (.tmp 10) 24 rfl 25 .u32 Tryf.underlying24 u32s w.heap.size zs.length cap (some x) zs (List.replicate zs.length 0) rfl rfl HB.out.1 (by simp) (HI.out.kept HB.out.2) w.heap.size w HB.out.2 (Nat.le_refl _) ?_; intro w2 hb2 hbel2; have H2 := Lib.hid (And.intro hb2 hbel2); clear hb2 hbel2)
    go_ret
    refine ⟨_, _, rfl, .inr ⟨_, 0, rfl, H2.out.1.lt, fun i hi => ?_⟩, H2.out.2⟩
    rw [Nat.zero_add]
    exact H2.out.1.int hi
def CpS (w : World) (ts : List ByteArray) (n : Nat) (e : Ending) (w' : World) : Prop := ∃ ao c, e = .returned (.slice ao n c) ∧ InS w' ao ts ∧ Below w.heap.size w w'
def e0 : ByteArray := ByteArray.empty
theorem s_info : (Tryf.prog.info? 9).map (fun i => (i.zero, i.size, i.bytes)) = some (some (.string e0), 1, 16) := by kernel_rfl
set_option maxRecDepth 100000 in
theorem cps_any (ao : Option Addr) (n cap : Nat) (ts : List ByteArray) (hn : ts.length = n) (w : World) (hin : InS w ao ts) (hl : n ≤ 1048576) (hao : ao = none → n = 0) :
    Calls Tryf.prog 8 #[.slice ao n cap] w (CpS w ts n) := by
  subst hn
  have hnil := fun (w : World) => Lib.run_eql_slice_nil (P := Tryf.prog) w 23 9 ao ts.length cap 0 0 Tryf.underlying23
  rcases ao with _ | x
  · have hz : ts = [] := List.eq_nil_of_length_eq_zero (hao rfl)
    subst hz
    clear hin hl hao
    simp only [List.length_nil, Option.isNone_none] at hnil
    go_enter Tryf.func8, Tryf.ntmps8
    go_wp2
    go_ret
    exact ⟨_, _, rfl, .inl rfl, Below.refl _ _⟩
  · have HI := Lib.hid hin
    clear hin hao
    go_enter Tryf.func8, Tryf.ntmps8
    go_upto_region 4 with (at_make; refine wpList_make_strs w rfl _ _ 23 rfl 9 e0 16 Tryf.underlying23 s_info ts.length rfl rfl (by omega) (by unfold maxLen; omega) ?_; intro w1 hb hgr)
    have hb1 : Below w.heap.size w w1 := (Below.refl _ w).grown hgr (Nat.le_refl _) (fun k h => by cases h)
    have HB := Lib.hid (And.intro hb hb1)
    clear hb hgr hb1
    go_wp2_with (refine wpList_copy_strs w1 rfl (.tmp 9) (.tmp 10) 23 rfl 9 Tryf.underlying23 sts w.heap.size ts.length cap ts.length (some x) ts (List.replicate ts.length e0) rfl rfl rfl HB.out.1 (by simp) (HI.out.kept HB.out.2) w.heap.size w HB.out.2 (Nat.le_refl _) ?_; intro w2 hb2 hbel2; have H2 := Lib.hid (And.intro hb2 hbel2); clear hb2 hbel2)
    go_ret
    exact ⟨_, _, rfl, H2.out.1.inS, H2.out.2⟩
end Go.Proofs.YtmfhoeihdikklaaFmt
