/-
  The law's walk: every query answers with the name of the root. No statement of the seat is proved here.
-/
import Derived.Test.YtdpigpogicapoaaDoorLk
import Derived.Deep.DeepCutAuto
import Derived.Deep.CutBlock
namespace Go.Proofs.YtdpigpogicapoaaDoor
open Go.RowKit
set_option linter.unusedVariables false
set_option linter.unusedSimpArgs false

theorem Iv.below {w w' : World} (h : Iv w) (hb : Below w.heap.size w w') : Iv w' := by
  have hl : 0 < w.heap.size := World.block_lt_of_cell? w _ h.1
  exact ⟨(hb.cell (p := ⟨0, 0, none⟩) hl).trans h.1, (hb.cell (p := ⟨0, 1, none⟩) hl).trans h.2⟩
/-- the world of the queries -/
structure Wd (wr : World) (T S n R M : Nat) (ks : Array Value) (zs : List Int) (wx : World) : Prop where
  sy : Sy wx T S 1 n ks (root zs) id
  iv : Iv wx
  nr : Nr wx T 1 1 R M
  bel : Below wr.heap.size wr wx
theorem Wd.step {wr : World} {T S n R M : Nat} {ks : Array Value} {zs : List Int} {wx w' : World} (h : Wd wr T S n R M ks zs wx) (hs : Sy w' T S 1 n ks (root zs) id) (hg : wx.grownBy w' (some S)) (h0 : 0 < S) (h1 : wr.heap.size ≤ S) (hR : R ≠ S) (hM : M ≠ S) : Wd wr T S n R M ks zs w' :=
  ⟨hs, h.iv.gb hg (fun e => by have := Option.some.inj e; omega), h.nr.gb hg hR hM, h.bel.grown hg h.bel.size (fun k hk => by have := Option.some.inj hk; omega)⟩
theorem Wd.set {wr : World} {T S n R M : Nat} {ks : Array Value} {zs : List Int} {wx : World} (h : Wd wr T S n R M ks zs wx) {G i : Nat} {v : Value} (hG : S < G ∧ T < G ∧ R < G ∧ M < G ∧ wr.heap.size ≤ S) : Wd wr T S n R M ks zs (wx.setCell ⟨G, i, none⟩ v) := by
  have hg : wx.grownBy (wx.setCell ⟨G, i, none⟩ v) (some G) := gb_set (gb_refl _ _) _ _ _
  exact ⟨h.sy.gb hg (fun e => by have := Option.some.inj e; omega) (fun e => by have := Option.some.inj e; omega), h.iv.gb hg (fun e => by have := Option.some.inj e; omega), h.nr.gb hg (by omega) (by omega), h.bel.grown hg h.bel.size (fun k hk => by have := Option.some.inj hk; omega)⟩
theorem Wd.drew {wr : World} {T S n R M : Nat} {ks : Array Value} {zs : List Int} {wx : World} (h : Wd wr T S n R M ks zs wx) : Wd wr T S n R M ks zs wx.drew :=
  ⟨h.sy.drew, h.iv.drew, h.nr.gb (S := R + M + 1) (gb_drew (gb_refl _ _)) (by omega) (by omega), h.bel.drew⟩
theorem e0_info : (Tryd.prog.info? 9).map (fun i => (i.zero, i.size, i.bytes)) = some (some (.string ByteArray.empty), 1, 16) := by kernel_rfl
/-- the links, as the law reads them: a row below block S -/
def Lb (S n : Nat) (bo : Option Addr) (zs : List Int) (w : World) : Prop := ∀ i, i < n → ∃ b off, bo = some ⟨b, off, none⟩ ∧ b < S ∧ w.cell? ⟨b, off + i, none⟩ = some (.int .i32 (nth zs i))
theorem Lb.of {S n : Nat} {bo : Option Addr} {zs : List Int} {w w' : World} (h : In .i32 w bo zs) (hl : zs.length = n) (hS : w.heap.size ≤ S) (hb : Below w.heap.size w w') : Lb S n bo zs w' := fun i hi => by
  obtain ⟨b, off, h1, h2, h3⟩ := h.at (i := i) (by omega)
  exact ⟨b, off, h1, by omega, (hb.cell (p := ⟨b, off + i, none⟩) h2).trans h3⟩
theorem Lb.gb {S n g : Nat} {bo : Option Addr} {zs : List Int} {w w' : World} (h : Lb S n bo zs w) (hg : w.grownBy w' (some g)) (hS : S ≤ g) (hw : S < w.heap.size) : Lb S n bo zs w' := fun i hi => by
  obtain ⟨b, off, h1, h2, h3⟩ := h i hi
  exact ⟨b, off, h1, h2, (World.cell?_of_block (w := w) (hg.block b (by omega) (fun e => by have := Option.some.inj e; omega))).trans h3⟩
theorem Lb.gn {S n : Nat} {bo : Option Addr} {zs : List Int} {w w' : World} (h : Lb S n bo zs w) (hg : w.grownBy w' none) (hw : S < w.heap.size) : Lb S n bo zs w' := h.gb (g := S) (gb_none hg) (Nat.le_refl _) hw
def RetTrue (e : Ending) : Prop := e = .returned (.bool true)
set_option maxHeartbeats 4000000 in
set_option maxRecDepth 100000 in
theorem law_any (ao : Option Addr) (n cap : Nat) (ts : List ByteArray) (hn : ts.length = n) (bo : Option Addr) (m cap2 : Nat) (zs : List Int) (hl : zs.length = m) (hmx : n ≤ maxLen) (w : World) (hin : InS w ao ts) (hin2 : In .i32 w bo zs) (hv : Iv w) :
    Calls Tryd.prog 3 #[.slice ao n cap, .slice bo m cap2] w fun e w' => RetTrue e ∧ Below w.heap.size w w' := by
  have HI := Lib.hid (And.intro hin (And.intro hin2 hv))
  clear hin hin2 hv
  go_enter Tryd.func3, Tryd.ntmps3
  go_upto_if 16 with (go_at_call 4; refine (zb_any ao n cap ts bo m cap2 hn hmx w HI.out.1).mono ?_; rintro e w2 ⟨⟨bb, rfl⟩, rfl⟩)
  cases bb
  · go_wp2_with fail
    go_ret
    exact ⟨rfl, Below.refl _ _⟩
  by_cases h0 : (n : Int) > 4096
  · have h1 : decide ((4096 : Int) < (n : Int)) = true := by simp; omega
    go_wp2_with fail
    go_ret
    exact ⟨rfl, Below.refl _ _⟩
  have h1 : decide ((4096 : Int) < (n : Int)) = false := by simp; omega
  by_cases h2 : (m : Int) > 4096
  · have h3 : decide ((4096 : Int) < (m : Int)) = true := by simp; omega
    go_wp2_with fail
    go_ret
    exact ⟨rfl, Below.refl _ _⟩
  have h3 : decide ((4096 : Int) < (m : Int)) = false := by simp; omega
  have hn4 : n ≤ 4096 := by omega
  go_upto_if 31 with (go_at_call 5; refine (sb_any ao n cap ts hn hn4 w2 HI.out.1).mono ?_; rintro e w3 ⟨⟨x, rfl⟩, rfl⟩)
  generalize wrap64 (x + 4 * (m : Int)) = y
  by_cases h4 : y > 1048576
  · have h5 : decide ((1048576 : Int) < y) = true := by simp; omega
    go_wp2_with fail
    go_ret
    exact ⟨rfl, Below.refl _ _⟩
  have h5 : decide ((1048576 : Int) < y) = false := by simp; omega
  by_cases hnm : n = m
  rotate_left
  · have h6 : ((n : Int) == (m : Int)) = false := by simp; omega
    go_wp2_with fail
    go_ret
    exact ⟨rfl, Below.refl _ _⟩
  subst hnm
  go_wp2_with fail
  go_loopg [5] n (fun k a wx => ∃ i : Nat, a = .int .i64 (i : Int) ∧ i ≤ n ∧ n - i ≤ k ∧ wx = w3 ∧ Hid (∀ j, j < i → nth zs j < (j : Int)))
  case atStart => exact ⟨0, rfl, by omega, by omega, rfl, Lib.hid (fun j hj => by omega)⟩
  case round =>
    obtain ⟨i, rfl, hi, hk, rfl, HB⟩ := hrel
    rcases (show n = i ∨ i < n by omega) with he | hlt
    · obtain rfl := he
      obtain ⟨wo, rfl⟩ : ∃ wo : World, wo = wr := ⟨_, rfl⟩
      have HC := cs_any ao cap ts wo HI.out.1 (by omega)
      rw [hn] at HC
      have HC := Lib.hid HC
      go_upto_region 15 with (go_at_call 6; refine HC.out.mono ?_; rintro e w5 ⟨ao2, cap3, rfl, hs2, hb2⟩)
      have H5 : Hid (InS w5 ao2 ts ∧ In .i32 w5 bo zs ∧ Iv w5 ∧ Below wo.heap.size wo w5) := Lib.hid ⟨ClonedS.in' hs2, HI.out.2.1.kept hb2, HI.out.2.2.below hb2, hb2⟩
      clear hs2 hb2
      have HD := ci_any bo cap2 zs w5 H5.out.2.1 (by omega)
      rw [hl] at HD
      have HD := Lib.hid HD
      go_upto_region 17 with (go_at_call 7; refine HD.out.mono ?_; rintro e w6 ⟨bo2, cap4, rfl, hs2, hb2⟩)
      have H6 : Hid (InS w6 ao2 ts ∧ In .i32 w6 bo2 zs ∧ Iv w6 ∧ Below wo.heap.size wo w6) := Lib.hid ⟨H5.out.1.kept hb2, Cloned.in' hs2, H5.out.2.2.1.below hb2, H5.out.2.2.2.trans (hb2.mono H5.out.2.2.2.size)⟩
      clear hs2 hb2
      have HZ : Hid (∀ k, k < n → nth zs k < (k : Int)) := Lib.hid (fun k hk => HB.out k hk)
      have hlk := lk_any ao2 n cap3 ts hn hn4 bo2 cap4 zs hl HZ.out w6 H6.out.1 H6.out.2.1
      have HK := Lib.hid hlk
      clear hlk
      go_upto_region 18 with (go_at_call 8; refine HK.out.mono ?_; rintro e w8 ⟨S, rfl, hS, hp, hb⟩; have H8 := Lib.hid (And.intro hS (And.intro hp hb)); clear hS hp hb)
      obtain ⟨W, hW⟩ : ∃ W, (w8.alloc (Obj.cells #[Value.slice (some { block := S, off := 0 }) n n] 28)).alloc (Obj.cells #[Value.slice (some { block := w8.heap.size, off := 0 }) 1 1] 32) = W := ⟨_, rfl⟩
      have H9 : Hid ((∃ ks, Sy W w8.heap.size S 1 n ks (root zs) id ∧ ∀ i, i < n → ks[i * 10 + 1]? = some (.string (tth ts i))) ∧ Iv W ∧ Below wo.heap.size wo W ∧ Blk W (w8.heap.size + 1) 32 #[.slice (some ⟨w8.heap.size, 0, none⟩) 1 1] ∧ wo.heap.size ≤ S ∧ S < w8.heap.size ∧ Lb S n bo2 zs W) := Lib.hid (by
        rw [← hW]
        have g2 : w8.grownBy ((w8.alloc (Obj.cells #[Value.slice (some { block := S, off := 0 }) n n] 28)).alloc (Obj.cells #[Value.slice (some { block := w8.heap.size, off := 0 }) 1 1] 32)) none := gb_alloc (gb_alloc (gb_refl _ _) _) _
        have hb8 : Below wo.heap.size wo w8 := H6.out.2.2.2.trans (H8.out.2.2.mono H6.out.2.2.2.size)
        have hSl : S < w8.heap.size := by obtain ⟨cs, q, _⟩ := H8.out.2.1.out; exact q.lt
        have hlp := H8.out.2.1.gb g2 (by simp)
        have hin8 : Lb S n bo2 zs w8 := Lb.of H6.out.2.1 hl H8.out.1 H8.out.2.2
        refine ⟨hlp.sy HZ.out ((Blk.new w8 28 _).alloc _), (H6.out.2.2.1.below H8.out.2.2).gb g2 (by simp), hb8.grown g2 hb8.size (fun k hk => by cases hk), ?_, Nat.le_trans H6.out.2.2.2.size H8.out.1, hSl, hin8.gn g2 hSl⟩
        have := Blk.new (w8.alloc (Obj.cells #[Value.slice (some { block := S, off := 0 }) n n] 28)) 32 #[.slice (some ⟨w8.heap.size, 0, none⟩) 1 1]
        simpa using this)
      rw [hW]
      clear hW H8 HK
      generalize w8.heap.size = T at H9 ⊢
      have hy := H9.out.2.2.2.1.cell 0
      have HN := Lib.hid (newr_any T 1 1 rfl W (by have := H9.out.2.2.2.1.lt; omega))
      go_upto_region 19 with (go_at_call 9; refine HN.out.mono ?_; rintro e w10 ⟨R, M, rfl, hnr, hR, hM, hg⟩; have H10 := Lib.hid (And.intro hnr (And.intro hR (And.intro hM hg))); clear hnr hR hM hg)
      obtain ⟨⟨ks, hsy, hks⟩, hiv, hbl, hbk, hS1, hS2, hin9⟩ := H9.out
      have HO : Hid (0 < wo.heap.size ∧ wo.heap.size ≤ S ∧ S < T ∧ T + 1 < R ∧ T + 1 < M ∧ R < w10.heap.size ∧ M < w10.heap.size) := Lib.hid (by
        have h1 := World.block_lt_of_cell? wo _ HI.out.2.2.1
        have h2 := hbk.lt
        have h3 := H10.out.1.1.lt
        have h4 := H10.out.1.2.lt
        have h5 := H10.out.2.1
        have h6 := H10.out.2.2.1
        exact ⟨by simpa using (show (0:Nat) < wo.heap.size from h1), hS1, hS2, by omega, by omega, h3, h4⟩)
      have HW : Hid (Wd wo T S n R M ks zs w10 ∧ Lb S n bo2 zs w10) := Lib.hid ⟨⟨hsy.gb H10.out.2.2.2 (by simp) (by simp), hiv.gb H10.out.2.2.2 (by simp), H10.out.1, hbl.grown H10.out.2.2.2 hbl.size (fun k hk => by cases hk)⟩, hin9.gn H10.out.2.2.2 (by have := hbk.lt; omega)⟩
      have HNm : Hid (∀ (i : Nat) (wx : World), i < n → Wd wo T S n R M ks zs wx → Calls Tryd.prog 10 #[.pointer (some ⟨R, 0, none⟩), .agg #[.int .u32 0, .int .u32 (i : Int)]] wx fun e w' => e = .returned (.string (tth ts (root zs i))) ∧ Wd wo T S n R M ks zs w' ∧ wx.grownBy w' (some S)) := Lib.hid (by
        intro i wx hi hw
        have ho := HO.out
        refine (name_any T S 1 1 n R M ks (root zs) id (by omega) (by omega) (by omega) (fun j hj => root_facts HZ.out j hj) (by omega) (by omega) i wx hi hw.sy hw.iv hw.nr _ (hks _ (root_facts HZ.out i hi).1)).mono ?_
        rintro e w' ⟨h1, h2, h3⟩
        exact ⟨h1, hw.step h2 h3 (by omega) ho.2.1 (by omega) (by omega), h3⟩)
      clear hsy hks hiv hbl hbk hS1 hS2 hin9 H9 hy HN H10
      go_upto_region 20 with (at_make; refine wpList_make_strs _ rfl _ _ 22 rfl 9 ByteArray.empty 16 Tryd.underlying22 e0_info n rfl rfl (by omega) (by unfold maxLen; omega) ?_; intro w11 hb hgr; have H11 := Lib.hid (And.intro hb hgr); clear hb hgr)
      have H12 : Hid ((S < w10.heap.size ∧ T < w10.heap.size ∧ R < w10.heap.size ∧ M < w10.heap.size ∧ wo.heap.size ≤ S) ∧ Wd wo T S n R M ks zs w11 ∧ Lb S n bo2 zs w11 ∧ Blk w11 w10.heap.size 9 (strs (List.replicate n ByteArray.empty))) := Lib.hid (by
        have ho := HO.out
        have hw := HW.out.1
        have hg := H11.out.2
        exact ⟨⟨by omega, by omega, by omega, by omega, by omega⟩, ⟨hw.sy.gb hg (by simp) (by simp), hw.iv.gb hg (by simp), hw.nr.gb (S := R + M + 1) (gb_none hg) (by omega) (by omega), hw.bel.grown hg hw.bel.size (fun k hk => by cases hk)⟩, HW.out.2.gn hg (by omega), H11.out.1⟩)
      clear HW H11
      generalize w10.heap.size = G at H12 ⊢
      have HG := Lib.hid H12.out.1
      go_wp2_with fail
      go_loopg [10] n (fun k a wx => ∃ i : Nat, a = .int .i64 ((i : Int) - 1) ∧ i ≤ n ∧ i ≤ k ∧ Hid (∃ fs, fs.length = n ∧ (∀ j, i ≤ j → j < n → tth fs j = tth ts (root zs j)) ∧ Blk wx G 9 (strs fs) ∧ Wd wo T S n R M ks zs wx ∧ Lb S n bo2 zs wx))
      case atStart => exact ⟨n, rfl, by omega, by omega, Lib.hid ⟨_, by simp, fun j h1 h2 => by omega, H12.out.2.2.2, H12.out.2.1, H12.out.2.2.1⟩⟩
      case round =>
        obtain ⟨i, rfl, hi, hk, HB2⟩ := hrel
        obtain ⟨wz, rfl⟩ : ∃ wz : World, wz = wr := ⟨_, rfl⟩
        rcases i with _ | i
        · rw [show (((0 : Nat) : Int) - 1) = -1 by omega]
          go_upto_region 24 with fail
          obtain ⟨fs, f1, f2, f3, f4, f5⟩ := HB2.out
          have HF := Lib.hid (And.intro f1 (And.intro (fun j hj => f2 j (by omega) hj) (And.intro f3 (And.intro f4 f5))))
          clear f1 f2 f3 f4 f5 HB2
          go_wp2_with fail
          go_loopg [11] n (fun k a wx => ∃ i : Nat, a = .int .i64 (i : Int) ∧ i ≤ n ∧ n - i ≤ k ∧ Hid (Blk wx G 9 (strs fs) ∧ Wd wo T S n R M ks zs wx ∧ Lb S n bo2 zs wx))
          case atStart => exact ⟨0, rfl, by omega, by omega, Lib.hid HF.out.2.2⟩
          case round =>
            obtain ⟨i, rfl, hi, hk, HB2⟩ := hrel
            obtain ⟨wy, rfl⟩ : ∃ wy : World, wy = wr := ⟨_, rfl⟩
            rcases (show n = i ∨ i < n by omega) with he | hlt
            · obtain rfl := he
              go_upto_region 29 with fail
              go_wp2_with fail
              go_loopg [12] n (fun k a wx => ∃ i : Nat, a = .int .i64 (i : Int) ∧ i ≤ n ∧ n - i ≤ k ∧ Hid (Blk wx G 9 (strs fs) ∧ Wd wo T S n R M ks zs wx ∧ Lb S n bo2 zs wx))
              case atStart => exact ⟨0, rfl, by omega, by omega, HB2⟩
              case round =>
                clear HB2
                obtain ⟨i, rfl, hi, hk, HB2⟩ := hrel
                obtain ⟨wy, rfl⟩ : ∃ wy : World, wy = wr := ⟨_, rfl⟩
                rcases (show n = i ∨ i < n by omega) with he | hlt
                · obtain rfl := he
                  go_wp2_with fail
                  go_ret
                  exact ⟨rfl, HB2.out.2.1.bel⟩
                · obtain ⟨b, off, rfl, hb1, hcz⟩ := HB2.out.2.2 i hlt
                  obtain ⟨z, hz⟩ : ∃ z, nth zs i = z := ⟨_, rfl⟩
                  rw [hz] at hcz
                  have HZZ := Lib.hid hz
                  have hcz' : wy.drew.cell? ⟨b, off + i, none⟩ = some (.int .i32 z) := hcz
                  clear hz hcz
                  by_cases h0 : (0 : Int) ≤ z
                  · have hzi := HZ.out i hlt
                    rw [HZZ.out] at hzi
                    obtain ⟨j, rfl⟩ : ∃ j : Nat, z = (j : Int) := ⟨z.toNat, by omega⟩
                    have hji : j < i := by omega
                    have hc1 := HB2.out.1.drew.str (i := i) (by have := HF.out.1; omega)
                    have hc2 := HB2.out.1.drew.str (i := j) (by have := HF.out.1; omega)
                    have hlg := HB2.out.1.drew.lt
                    rw [HF.out.2.1 i hlt] at hc1
                    rw [HF.out.2.1 j (by omega)] at hc2
                    have hr := root_link HZ.out hlt (by rw [HZZ.out]; omega)
                    rw [HZZ.out, Int.toNat_natCast] at hr
                    rw [hr] at hc2
                    generalize tth ts (root zs i) = t at hc1 hc2
                    clear hr hzi
                    have h7 : decide ((0 : Int) ≤ (j : Int)) = true := by simp
                    have hjn : j < n := by omega
                    go_upto_region 32 with fail
                    go_region
                    all_goals go_wp2_with fail
                    all_goals
                      go_roundg (gk - 1)
                      case measure => omega
                      case rel => exact ⟨i + 1, by go_num, by omega, by omega, Lib.hid ⟨HB2.out.1.drew, HB2.out.2.1.drew, HB2.out.2.2⟩⟩
                  · have h7 : decide ((0 : Int) ≤ z) = false := by simp; omega
                    go_upto_region 32 with fail
                    go_region
                    all_goals go_wp2_with fail
                    all_goals
                      go_roundg (gk - 1)
                      case measure => omega
                      case rel => exact ⟨i + 1, by go_num, by omega, by omega, Lib.hid ⟨HB2.out.1.drew, HB2.out.2.1.drew, HB2.out.2.2⟩⟩
            · have HC2 := Lib.hid (HNm.out i wy.drew hlt HB2.out.2.1.drew)
              have hw1 := u32_small i (by omega)
              have hcg := HB2.out.1.drew.str (i := i) (by have := HF.out.1; omega)
              have hlg := HB2.out.1.drew.lt
              rw [HF.out.2.1 i hlt] at hcg
              obtain ⟨t, ht⟩ : ∃ t, tth ts (root zs i) = t := ⟨_, rfl⟩
              rw [ht] at HC2 hcg
              have HT := Lib.hid ht
              clear ht
              go_upto_region 27 with fail
              go_region_with (go_at_call 10; refine HC2.out.mono ?_; rintro e w12 ⟨rfl, hwd, hg⟩; have hb12 := HB2.out.1.drew.gb hg (by have := HG.out; simp; omega); have hc12 := hb12.str (i := i) (by have := HF.out.1; omega); rw [HF.out.2.1 i hlt, HT.out] at hc12; have hl12 := hb12.lt; have H13 := Lib.hid (And.intro hwd (And.intro hg hb12)); clear hwd hg hb12)
              all_goals go_wp2_with fail
              all_goals
                go_roundg (gk - 1)
                case measure => omega
                case rel =>
                  have hg := HG.out
                  have hl0 := HB2.out.1.lt
                  exact ⟨i + 1, by go_num, by omega, by omega, Lib.hid ⟨H13.out.2.2, H13.out.1, HB2.out.2.2.gb (gb_und H13.out.2.1) (Nat.le_refl _) (by omega)⟩⟩
        · rw [show (((i + 1 : Nat) : Int) - 1) = (i : Int) by omega]
          obtain ⟨fs, f1, f2, f3, f4, f5⟩ := HB2.out
          have HC2 := Lib.hid (HNm.out i wz (by omega) f4)
          have hw1 := u32_small i (by omega)
          have hcg := f3.str (i := i) (by omega)
          have hfg := f3.free i
          have HF := Lib.hid (And.intro f1 (And.intro f2 (And.intro f3 (And.intro f4 f5))))
          clear f1 f2 f3 f4 f5 HB2
          obtain ⟨t, ht⟩ : ∃ t, tth ts (root zs i) = t := ⟨_, rfl⟩
          rw [ht] at HC2
          have HT := Lib.hid ht
          clear ht
          go_wp2_with (go_at_call 10; refine HC2.out.mono ?_; rintro e w12 ⟨rfl, hwd, hg⟩; have hb12 := HF.out.2.2.1.gb hg (by have := HG.out; simp; omega); have hc12 := hb12.str (i := i) (by have := HF.out.1; omega); have hf12 := hb12.free i; have hl12 := hb12.lt; have H13 := Lib.hid (And.intro hwd (And.intro hg hb12)); clear hwd hg hb12)
          go_roundg (gk - 1)
          case measure => omega
          case rel =>
            refine ⟨i, rfl, by omega, by omega, Lib.hid ⟨fs.set i t, ?_, fun j h1 h2 => ?_, H13.out.2.2.putS i t, H13.out.1.set HG.out, ?_⟩⟩
            · rw [List.length_set]; exact HF.out.1
            · by_cases e : j = i
              · subst e
                rw [HT.out]
                exact tth_of (by simp [HF.out.1, h2])
              · rw [← HF.out.2.1 j (by omega) h2]
                unfold tth
                rw [List.getD_eq_getElem?_getD, List.getD_eq_getElem?_getD, List.getElem?_set_ne (Ne.symm e)]
            · have hlt2 := H13.out.2.2.lt
              have hg := HG.out
              have hl0 := HF.out.2.2.1.lt
              exact (HF.out.2.2.2.2.gb H13.out.2.1 (Nat.le_refl _) (by omega)).gb (g := G) (gb_set (gb_refl _ _) _ _ _) (by omega) (by omega)
    · obtain ⟨b, off, rfl, hblt, hc⟩ := HI.out.2.1.at (i := i) (by omega)
      obtain ⟨z, hzz⟩ : ∃ z, nth zs i = z := ⟨_, rfl⟩
      rw [hzz] at hc
      have HZZ := Lib.hid hzz
      clear hzz
      have hw1 := i32_small i (by omega)
      by_cases h0 : (i : Int) ≤ z
      · have h7 : decide ((i : Int) ≤ z) = true := by simp [h0]
        go_wp2_with fail
        go_ret
        exact ⟨rfl, Below.refl _ _⟩
      · have h7 : decide ((i : Int) ≤ z) = false := by simp; omega
        go_wp2_with fail
        go_roundg (gk - 1)
        case measure => omega
        case rel =>
          refine ⟨i + 1, by go_num, by omega, by omega, rfl, Lib.hid (fun j hj => ?_)⟩
          rcases (show j < i ∨ j = i by omega) with h | rfl
          · exact HB.out j h
          · rw [HZZ.out]; omega
end Go.Proofs.YtdpigpogicapoaaDoor
