/-
  The conditions copied. No statement of the seat is proved here.
-/
import Derived.Test.YtgkekeojdiofnaaIc
import Derived.Test.YtgkekeojdiofnaaSz
import Derived.Lib.SliceRun
namespace Go.Proofs.Ytgkekeojdiofnaa
open Go.RowKit
set_option linter.unusedVariables false
set_option linter.unusedSimpArgs false

theorem made_at (zs : Array Value) (k n j i : Nat) (hs : zs.size = k) (hj : j < n) (hi : i < k) : (madeCells zs (n * k))[j * k + i]? = zs[i]? := by
  have e : (j * k + i) % k = i := by rw [Nat.mul_comm, Nat.mul_add_mod, Nat.mod_eq_of_lt hi]
  have hl : j * k + i < n * k := by
    have h1 : (j + 1) * k ≤ n * k := Nat.mul_le_mul_right _ hj
    rw [Nat.succ_mul] at h1
    omega
  rw [Array.getElem?_eq_getElem (by simp [madeCells]; exact hl)]
  simp only [madeCells, Array.getElem_ofFn, hs, e]
  rw [Array.getElem?_eq_getElem (by rw [hs]; exact hi)]
  simp [hs, hi, Nat.mod_eq_of_lt hi]
theorem zinfo37 : (Try.prog.info? 37).map (fun i => (i.zero, i.size, i.bytes)) = some (some (.agg #[.slice none 0 0, .int .i64 0]), 2, 32) := by kernel_rfl
theorem zinfo4 : (Try.prog.info? 4).map (fun i => (i.zero, i.size, i.bytes)) = some (some (.bool false), 1, 1) := by kernel_rfl
/-- a copied row of bools -/
def Lb (w : World) (la : Option Addr) (ls : List Bool) : Prop := ls = [] ∨ ∃ L qs, la = some ⟨L, 0, none⟩ ∧ Blk w L 4 qs ∧ ∀ j, j < ls.length → qs[j]? = some (.bool (ls.getD j false))
theorem Lb.gb {w w' : World} {la : Option Addr} {ls : List Bool} {A : Nat} {t : TypeId} {cs : Array Value} (h : Lb w la ls) (hb : Blk w A t cs) (ht : (4 : TypeId) ≠ t) (hg : w.grownBy w' (some A)) : Lb w' la ls := by
  rcases h with h | ⟨L, qs, h1, h2, h3⟩
  · exact .inl h
  · exact .inr ⟨L, qs, h1, h2.gb hg (fun e => blk_ne h2 hb ht (Option.some.inj e)), h3⟩
theorem Lb.grow {w w' : World} {la : Option Addr} {ls : List Bool} (h : Lb w la ls) (hg : w.grownBy w' none) : Lb w' la ls := by
  rcases h with h | ⟨L, qs, h1, h2, h3⟩
  · exact .inl h
  · exact .inr ⟨L, qs, h1, h2.gb hg (by simp), h3⟩
theorem Lb.inB {w : World} {la : Option Addr} {ls : List Bool} (h : Lb w la ls) : InB w la ls := by
  rcases h with h | ⟨L, qs, h1, h2, h3⟩
  · exact .inl h
  · exact .inr ⟨L, 0, h1, h2.lt, fun i hi => by rw [Nat.zero_add]; exact (h2.cell i).trans (h3 i hi)⟩
/-- the copies of the first i conditions -/
structure Cq (w wx : World) (A n i : Nat) (cs : List Cz) : Prop where
  d : ∃ ds, Blk wx A 37 ds ∧ ds.size = n * 2 ∧ (∀ v, v < i → (∃ la lc, ds[v * 2]? = some (.slice la (cz cs v).ls.length lc) ∧ Lb wx la (cz cs v).ls) ∧ ds[v * 2 + 1]? = some (.int .i64 (cz cs v).sn)) ∧ ∀ v, i ≤ v → v < n → ds[v * 2]? = some (.slice none 0 0)
  g : w.grownBy wx none
  a : w.heap.size ≤ A
theorem Cq.grow {w wx wy : World} {A n i : Nat} {cs : List Cz} (h : Cq w wx A n i cs) (hg : wx.grownBy wy none) : Cq w wy A n i cs := by
  obtain ⟨ds, h1, h2, h3, h4⟩ := h.d
  refine ⟨⟨ds, h1.gb hg (by simp), h2, fun v hv => ?_, h4⟩, gb_trans h.g hg, h.a⟩
  obtain ⟨⟨la, lc, k1, k2⟩, k3⟩ := h3 v hv
  exact ⟨⟨la, lc, k1, k2.grow hg⟩, k3⟩
theorem Cq.cs {w wx : World} {A n : Nat} {cs : List Cz} (h : Cq w wx A n n cs) (hn : cs.length = n) : Cs wx (some ⟨A, 0, none⟩) cs := by
  obtain ⟨ds, h1, h2, h3, h4⟩ := h.d
  refine .inr ⟨A, 0, rfl, h1.lt, fun i hi => ?_⟩
  rw [hn] at hi
  obtain ⟨⟨la, lc, k1, k2⟩, k3⟩ := h3 i hi
  rw [Nat.zero_add]
  exact ⟨⟨la, lc, (h1.cell _).trans k1, k2.inB⟩, (h1.cell _).trans k3⟩
set_option maxHeartbeats 8000000 in
set_option maxRecDepth 100000 in
theorem cl_any (ao : Option Addr) (n cap : Nat) (cs : List Cz) (hn : cs.length = n) (hok : OkC cs) (hnil : ao = none → n = 0) (w : World) (hin : Cs w ao cs) :
    Calls Try.prog 6 #[.slice ao n cap] w fun e w' => ∃ ao' cap', e = .returned (.slice ao' n cap') ∧ ((ao' = none ∧ n = 0 ∧ cap' = 0) ∨ (cap' = n ∧ ∃ A, ao' = some ⟨A, 0, none⟩ ∧ Cs w' (some ⟨A, 0, none⟩) cs)) ∧ w.grownBy w' none := by
  have q22 : ∀ (w : World) (a : Option Addr) (n c n' c' : Nat), (binOp .eql 22 (.slice a n c) (.slice none n' c')).run Try.prog w = .ok (.bool a.isNone) w := fun w a n c n' c' => Lib.run_eql_slice_nil w _ _ a n c n' c' Try.underlying22
  have q35 : ∀ (w : World) (a : Option Addr) (n c n' c' : Nat), (binOp .neq 35 (.slice a n c) (.slice none n' c')).run Try.prog w = .ok (.bool (!a.isNone)) w := fun w a n c n' c' => run_neq_slice_nil_any w _ _ a n c n' c' Try.underlying35
  have hn4 : n ≤ 4096 := by rw [← hn]; exact hok.1
  have H := Lib.hid (And.intro hin (And.intro hn hok))
  clear hin hn hok
  rcases ao with _ | ad
  · have h0 := hnil rfl
    subst h0
    go_enter Try.func6, Try.ntmps6
    go_wp2_with fail
    go_ret
    exact ⟨_, _, rfl, .inl (by simp), gb_refl _ _⟩
  clear hnil
  go_enter Try.func6, Try.ntmps6
  go_upto_region 4 with (at_make; refine wpList_make_blk w rfl _ _ 22 rfl 37 _ 2 32 Try.underlying22 zinfo37 n rfl rfl (by omega) (by unfold maxLen; omega) ?_; intro w1 hb1 hg1; have H1 := Lib.hid (And.intro hb1 hg1); clear hb1 hg1)
  obtain ⟨A, hA⟩ : ∃ A, w.heap.size = A := ⟨_, rfl⟩
  rw [hA]
  have H0 : Hid (Cq w w1 A n 0 cs ∧ w.heap.size = A) := Lib.hid (by
    have h := H1.out.1
    rw [hA] at h
    exact ⟨⟨⟨_, h, by simp [madeCells], fun v hv => by omega, fun v _ hv => (made_at _ 2 n v 0 rfl hv (by omega)).trans rfl⟩, H1.out.2, by omega⟩, hA⟩)
  clear H1 hA
  go_wp2_with fail
  go_loopg [4] n (fun k x wx => ∃ i : Nat, x = .int .i64 (i : Int) ∧ i ≤ n ∧ n - i ≤ k ∧ Hid (Cq w wx A n i cs))
  case atStart => exact ⟨0, rfl, by omega, by omega, Lib.hid H0.out.1⟩
  case round =>
    obtain ⟨i, rfl, hi, hk, HB⟩ := hrel
    obtain ⟨wz, rfl⟩ : ∃ wz : World, wz = wr := ⟨_, rfl⟩
    obtain ⟨gO, rfl⟩ : ∃ gO, gO = gk := ⟨_, rfl⟩
    rcases (show n = i ∨ i < n by omega) with he | hlt
    · subst he
      go_wp2_with fail
      go_ret
      exact ⟨_, _, rfl, .inr ⟨rfl, A, rfl, HB.out.cs H.out.2.1⟩, HB.out.g⟩
    · obtain ⟨b, off, hao, lb0, hc⟩ := H.out.1.at (i := i) (by rw [H.out.2.1]; exact hlt)
      cases hao
      have hbel := below_of HB.out.g
      obtain ⟨la, lc, c0w, hla⟩ := hc.c0
      have c0 := (hbel.cell (p := ⟨b, off + i * 2, none⟩) lb0).trans c0w
      have lb : b < wz.heap.size := Nat.lt_of_lt_of_le lb0 hbel.size
      have HLB := Lib.hid (And.intro lb0 c0w)
      have c1 := (hbel.cell (p := ⟨b, off + i * 2 + 1, none⟩) lb0).trans hc.c1
      obtain ⟨z, hz⟩ : ∃ z, cz cs i = z := ⟨_, rfl⟩
      rw [hz] at c0 c1 hla HLB
      obtain ⟨m, hm⟩ : ∃ m, z.ls.length = m := ⟨_, rfl⟩
      rw [hm] at c0 HLB
      have hm2 : m ≤ 65536 := by rw [← hm, ← hz]; exact (H.out.2.2.2 i (by rw [H.out.2.1]; exact hlt)).1
      have HZ := Lib.hid (And.intro hz (And.intro hm hla))
      clear hc hz hm hla lb0 c0w hbel
      obtain ⟨ds, h1, h2, h3, h4⟩ := HB.out.d
      have f1 := h1.free (i * 2 + 1)
      obtain ⟨v1, k1⟩ := h1.has (i := i * 2 + 1) (by omega)
      have lA := h1.lt
      have hset := h1.set (i * 2 + 1) (.int .i64 z.sn)
      have HS := Lib.hid (And.intro hset (And.intro h2 (And.intro h3 (And.intro h4 h1))))
      clear hset h2 h3 h4 h1
      go_upto_region 8 with fail
      clear f1 k1 v1
      have HG : Hid (w.grownBy (wz.setCell ⟨A, i * 2 + 1, none⟩ (.int .i64 z.sn)) none ∧ wz.grownBy (wz.setCell ⟨A, i * 2 + 1, none⟩ (.int .i64 z.sn)) (some A)) := Lib.hid (by
        have hg : wz.grownBy (wz.setCell ⟨A, i * 2 + 1, none⟩ (.int .i64 z.sn)) (some A) := gb_set (gb_refl _ _) _ _ _
        exact ⟨gb_new (gb_trans (gb_none HB.out.g) hg) HB.out.a, hg⟩)
      clear c0 c1
      have c0 := ((below_of HG.out.1).cell (p := ⟨b, off + i * 2, none⟩) HLB.out.1).trans HLB.out.2
      have lb : b < (wz.setCell ⟨A, i * 2 + 1, none⟩ (.int .i64 z.sn)).heap.size := by simpa using lb
      have lA : A < (wz.setCell ⟨A, i * 2 + 1, none⟩ (.int .i64 z.sn)).heap.size := by simpa using lA
      have HQ : Hid (∀ la' lc' (wx : World), (wz.setCell ⟨A, i * 2 + 1, none⟩ (.int .i64 z.sn)).grownBy wx none → Lb wx la' z.ls → Cq w (wx.setCell ⟨A, i * 2, none⟩ (.slice la' z.ls.length lc')) A n (i + 1) cs) := Lib.hid (by
        intro la' lc' wx hgx hlx
        obtain ⟨k1, k2, k3, k4, k5⟩ := HS.out
        have hb := k1.gb hgx (by simp)
        have hgs : wx.grownBy (wx.setCell ⟨A, i * 2, none⟩ (.slice la' z.ls.length lc')) (some A) := gb_set (gb_refl _ _) _ _ _
        refine ⟨⟨_, hb.set (i * 2) _, by simp [k2], fun v hv => ?_, fun v hv hvn => ?_⟩, gb_new (gb_trans (gb_none (gb_trans HG.out.1 hgx)) hgs) HB.out.a, HB.out.a⟩
        · rcases (show v < i ∨ v = i by omega) with h | rfl
          · obtain ⟨⟨la2, lc2, j1, j2⟩, j3⟩ := k3 v h
            refine ⟨⟨la2, lc2, ?_, ((j2.gb k5 (by decide) HG.out.2).grow hgx).gb hb (by decide) hgs⟩, ?_⟩
            · rw [Array.getElem?_setIfInBounds_ne (by omega), Array.getElem?_setIfInBounds_ne (by omega)]; exact j1
            · rw [Array.getElem?_setIfInBounds_ne (by omega), Array.getElem?_setIfInBounds_ne (by omega)]; exact j3
          · rw [HZ.out.1]
            refine ⟨⟨la', lc', Array.getElem?_setIfInBounds_self_of_lt (by simp; omega), hlx.gb hb (by decide) hgs⟩, ?_⟩
            rw [Array.getElem?_setIfInBounds_ne (by omega)]
            exact Array.getElem?_setIfInBounds_self_of_lt (by omega)
        · rw [Array.getElem?_setIfInBounds_ne (by omega), Array.getElem?_setIfInBounds_ne (by omega)]; exact k4 v (by omega) hvn)
      have HQ0 : Hid (z.ls = [] → Cq w (wz.setCell ⟨A, i * 2 + 1, none⟩ (.int .i64 z.sn)) A n (i + 1) cs) := Lib.hid (by
        intro hnl
        obtain ⟨k1, k2, k3, k4, k5⟩ := HS.out
        refine ⟨⟨_, k1, by simp [k2], fun v hv => ?_, fun v hv hvn => ?_⟩, HG.out.1, HB.out.a⟩
        · rcases (show v < i ∨ v = i by omega) with h | rfl
          · obtain ⟨⟨la2, lc2, j1, j2⟩, j3⟩ := k3 v h
            refine ⟨⟨la2, lc2, ?_, (j2.gb k5 (by decide) HG.out.2)⟩, ?_⟩
            · rw [Array.getElem?_setIfInBounds_ne (by omega)]; exact j1
            · rw [Array.getElem?_setIfInBounds_ne (by omega)]; exact j3
          · rw [HZ.out.1]
            refine ⟨⟨none, 0, ?_, .inl hnl⟩, Array.getElem?_setIfInBounds_self_of_lt (by omega)⟩
            rw [Array.getElem?_setIfInBounds_ne (by omega), hnl]
            exact k4 v (Nat.le_refl _) hlt
        · rw [Array.getElem?_setIfInBounds_ne (by omega)]; exact k4 v (by omega) hvn)
      generalize wz.setCell ⟨A, i * 2 + 1, none⟩ (.int .i64 z.sn) = w2 at HG HQ HQ0 HS c0 lb lA ⊢
      rcases la with _ | ad
      · have hnl : z.ls = [] := by
          rcases HZ.out.2.2 with h | ⟨b2, off2, e1, _⟩
          · exact h
          · cases e1
        have HNX := Lib.hid (HQ0.out hnl)
        clear hnl
        go_wp2_with fail
        go_roundg (gO - 1)
        case measure => omega
        case rel => exact ⟨i + 1, by go_num, by omega, by omega, HNX⟩
      go_upto_region 10 with (at_make; refine wpList_make_blk w2 rfl _ _ 35 rfl 4 _ 1 1 Try.underlying35 zinfo4 m rfl rfl (by omega) (by unfold maxLen; omega) ?_; intro w3 hb3 hg3; have H3 := Lib.hid (And.intro hb3 hg3); clear hb3 hg3)
      obtain ⟨L, hL⟩ : ∃ L, w2.heap.size = L := ⟨_, rfl⟩
      try rw [hL]
      have H4 : Hid (w2.heap.size = L ∧ Blk w3 L 4 (madeCells (Value.bool false).cells (m * 1)) ∧ w2.grownBy w3 none) := Lib.hid ⟨hL, by have h := H3.out.1; rw [hL] at h; exact h, H3.out.2⟩
      clear H3 hL c0 lb lA
      go_wp2_with fail
      go_loopg [6] m (fun kk x wx => ∃ j : Nat, x = .int .i64 (j : Int) ∧ j ≤ m ∧ m - j ≤ kk ∧ Hid (∃ qs, Blk wx L 4 qs ∧ qs.size = m ∧ w2.grownBy wx none ∧ ∀ v, v < j → qs[v]? = some (.bool (z.ls.getD v false))))
      case atStart => exact ⟨0, rfl, by omega, by omega, Lib.hid ⟨_, H4.out.2.1, by simp [madeCells], H4.out.2.2, fun v hv => by omega⟩⟩
      case round =>
        obtain ⟨j, rfl, hj, hjk, HJ⟩ := hrel
        obtain ⟨wy, rfl⟩ : ∃ wy : World, wy = wr := ⟨_, rfl⟩
        obtain ⟨qs, u1, u2, u3, u4⟩ := HJ.out
        rcases (show m = j ∨ j < m by omega) with he | hltj
        · subst he
          have HNX := Lib.hid (HQ.out (some ⟨L, 0, none⟩) m wy u3 (.inr ⟨L, qs, rfl, u1, fun j hj => u4 j (by rw [HZ.out.2.1] at hj; exact hj)⟩))
          rw [HZ.out.2.1] at HNX
          have hbA := HS.out.1.gb u3 (by simp)
          have f1 := hbA.free (i * 2)
          obtain ⟨v1, k1⟩ := hbA.has (i := i * 2) (by have := HS.out.2.1; simp; omega)
          have lA := hbA.lt
          clear hbA u1 u2 u3 u4
          go_wp2_with fail
          go_roundg (gO - 1)
          case measure => omega
          case rel => exact ⟨i + 1, by go_num, by omega, by omega, HNX⟩
        · have hbel := below_of (gb_trans HG.out.1 u3)
          have c0 := (hbel.cell (p := ⟨b, off + i * 2, none⟩) HLB.out.1).trans HLB.out.2
          have lb : b < wy.heap.size := Nat.lt_of_lt_of_le HLB.out.1 hbel.size
          obtain ⟨b2, off2, e1, lb2, cb⟩ := (HZ.out.2.2.kept hbel).at (i := j) (by rw [HZ.out.2.1]; exact hltj)
          cases e1
          have f1 := u1.free j
          obtain ⟨v1, k1⟩ := u1.has (i := j) (by omega)
          have lL := u1.lt
          have HU := Lib.hid (And.intro u1 (And.intro u2 (And.intro u3 u4)))
          obtain ⟨t, ht⟩ : ∃ t, z.ls.getD j false = t := ⟨_, rfl⟩
          rw [ht] at cb
          have HT := Lib.hid ht
          clear u1 u2 u3 u4 hbel ht
          go_wp2_with fail
          go_roundg (gk - 1)
          case measure => omega
          case rel =>
            obtain ⟨u1, u2, u3, u4⟩ := HU.out
            refine ⟨j + 1, by go_num, by omega, by omega, Lib.hid ⟨_, u1.set j _, by simp [u2], gb_new (gb_trans (gb_none u3) (gb_set (gb_refl _ _) _ _ _)) (by rw [H4.out.1]; exact Nat.le_refl _), fun v hv => ?_⟩⟩
            rcases (show v < j ∨ v = j by omega) with h | rfl
            · rw [Array.getElem?_setIfInBounds_ne (by omega)]; exact u4 v h
            · rw [HT.out]; exact Array.getElem?_setIfInBounds_self_of_lt (by omega)
end Go.Proofs.Ytgkekeojdiofnaa
