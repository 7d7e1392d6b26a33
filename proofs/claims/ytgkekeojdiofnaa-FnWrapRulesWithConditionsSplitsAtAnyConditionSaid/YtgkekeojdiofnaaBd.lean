/-
  The conditions laid. No statement of the seat is proved here.
-/
import Derived.Test.YtgkekeojdiofnaaCl
namespace Go.Proofs.Ytgkekeojdiofnaa
open Go.RowKit
set_option linter.unusedVariables false
set_option linter.unusedSimpArgs false

theorem zinfo58 : (Try.prog.info? 58).map (fun i => (i.zero, i.size, i.bytes)) = some (some (.agg #[.slice none 0 0, .slice none 0 0, .slice none 0 0]), 3, 72) := by kernel_rfl
theorem Pt.gb {w w' : World} {c : Value} {t : Bool} {r : Option Nat} (h : Pt w c t) (hg : w.grownBy w' r) (hne : ∀ b cs, Blk w b 48 cs → some b ≠ r) : Pt w' c t := by
  rcases h with ⟨h1, q, x, xc, h2, h3⟩ | h
  · exact .inl ⟨h1, q, x, xc, h2, h3.gb hg (hne _ _ h3)⟩
  · exact .inr h
theorem Co.past {w w' : World} {ds : Array Value} {i A : Nat} {z : Cz} {cs : Array Value} (h : Co w ds i z) (hb : Blk w A 58 cs) (hg : w.grownBy w' (some A)) : Co w' ds i z := by
  obtain ⟨v, h1, b, ls, e, h2, h3⟩ := h.l
  obtain ⟨u, k1, b', ls', e', k2, k3⟩ := h.s
  refine ⟨h.q, ⟨v, h1, b, ls, e, h2.gb hg (fun e => blk_ne h2 hb (by decide) (Option.some.inj e)), fun j hj => ?_⟩, ⟨u, k1, b', ls', e', k2.gb hg (fun e => blk_ne k2 hb (by decide) (Option.some.inj e)), k3⟩⟩
  obtain ⟨c, j1, j2⟩ := h3 j hj
  exact ⟨c, j1.gb hg (fun b cs hb' e => blk_ne hb' hb (by decide) (Option.some.inj e)), j2⟩
theorem Co.cells {w : World} {ds es : Array Value} {i : Nat} {z : Cz} (h : Co w ds i z) (he : ∀ j, j < 3 → es[i * 3 + j]? = ds[i * 3 + j]?) : Co w es i z := by
  obtain ⟨v, h1, h2⟩ := h.l
  obtain ⟨u, k1, k2⟩ := h.s
  exact ⟨(he 0 (by omega)).trans h.q, ⟨v, (he 1 (by omega)).trans h1, h2⟩, ⟨u, (he 2 (by omega)).trans k1, k2⟩⟩
/-- the tokens of the first j layers -/
def Tq (w : World) (L m j : Nat) (ls : List Bool) : Prop := ∃ qs, Blk w L 55 qs ∧ qs.size = m * 7 ∧ (∀ v, v < j → ∃ c, Pt w c (ls.getD v false) ∧ ∀ i, i < 7 → qs[v * 7 + i]? = (tkC c ⟨#[]⟩ 0)[i]?) ∧ ∀ v, j ≤ v → v < m → ∀ i, i < 7 → qs[v * 7 + i]? = (tkC (.pointer none) ⟨#[]⟩ 0)[i]?
theorem Tq.grow {w w' : World} {L m j : Nat} {ls : List Bool} (h : Tq w L m j ls) (hg : w.grownBy w' none) : Tq w' L m j ls := by
  obtain ⟨qs, h1, h2, h3, h4⟩ := h
  refine ⟨qs, h1.gb hg (by simp), h2, fun v hv => ?_, h4⟩
  obtain ⟨c, k1, k2⟩ := h3 v hv
  exact ⟨c, k1.grow hg, k2⟩
theorem Tq.step0 {w : World} {L m j : Nat} {ls : List Bool} (h : Tq w L m j ls) (hj : j < m) (ht : ls.getD j false = false) : Tq w L m (j + 1) ls := by
  obtain ⟨qs, h1, h2, h3, h4⟩ := h
  refine ⟨qs, h1, h2, fun v hv => ?_, fun v hv hvm => h4 v (by omega) hvm⟩
  rcases (show v < j ∨ v = j by omega) with hl | rfl
  · exact h3 v hl
  · exact ⟨.pointer none, .inr ⟨ht, rfl⟩, h4 v (Nat.le_refl _) hj⟩
theorem Tq.step1 {w : World} {L m j : Nat} {ls : List Bool} {q : Nat} {x : Option Addr} {xc : Nat} (h : Tq w L m j ls) (hj : j < m) (ht : ls.getD j false = true) (hq : Blk w q 48 #[.slice x 0 xc]) : Tq (w.setCell ⟨L, j * 7, none⟩ (.pointer (some ⟨q, 0, none⟩))) L m (j + 1) ls := by
  obtain ⟨qs, h1, h2, h3, h4⟩ := h
  have hg : w.grownBy (w.setCell ⟨L, j * 7, none⟩ (.pointer (some ⟨q, 0, none⟩))) (some L) := gb_set (gb_refl _ _) _ _ _
  have hne : ∀ b cs, Blk w b 48 cs → some b ≠ some L := fun b cs hb e => blk_ne hb h1 (by decide) (Option.some.inj e)
  refine ⟨_, h1.set _ _, by simp [h2], fun v hv => ?_, fun v hv hvm i hi => ?_⟩
  · rcases (show v < j ∨ v = j by omega) with hl | rfl
    · obtain ⟨c, k1, k2⟩ := h3 v hl
      refine ⟨c, k1.gb hg hne, fun i hi => ?_⟩
      rw [Array.getElem?_setIfInBounds_ne (by omega)]
      exact k2 i hi
    · refine ⟨_, .inl ⟨ht, q, x, xc, rfl, hq.gb hg (hne _ _ hq)⟩, fun i hi => ?_⟩
      by_cases h0 : i = 0
      · subst h0
        rw [Nat.add_zero, Array.getElem?_setIfInBounds_self_of_lt (by omega)]
        rfl
      · rw [Array.getElem?_setIfInBounds_ne (by omega), h4 v (Nat.le_refl _) hj i hi]
        match i, hi, h0 with
        | 1, _, _ => rfl
        | 2, _, _ => rfl
        | 3, _, _ => rfl
        | 4, _, _ => rfl
        | 5, _, _ => rfl
        | 6, _, _ => rfl
  · rw [Array.getElem?_setIfInBounds_ne (by omega)]
    exact h4 v (by omega) hvm i hi
/-- the conditions laid, the first i -/
structure Bq (w wx : World) (B n i : Nat) (cs : List Cz) : Prop where
  d : ∃ ds, Blk wx B 58 ds ∧ ds.size = n * 3 ∧ (∀ v, v < i → Co wx ds v (cz cs v)) ∧ ∀ v, i ≤ v → v < n → ds[v * 3]? = some (.slice none 0 0)
  g : w.grownBy wx none
  b : w.heap.size ≤ B
theorem Bq.ic {w wx : World} {B n : Nat} {cs : List Cz} (h : Bq w wx B n n cs) (hn : cs.length = n) : Ic wx B cs := by
  obtain ⟨ds, h1, h2, h3, h4⟩ := h.d
  exact ⟨ds, h1, fun i hi => h3 i (by omega)⟩
/-- one condition more -/
theorem Bq.next {w wz wa wb : World} {B n i : Nat} {cs : List Cz} {lv sv : Value} (h : Bq w wz B n i cs) (hi : i < n) (ha : wz.grownBy wa none) (hl : Ly wa lv (cz cs i).ls)
    (hb : (wa.setCell ⟨B, i * 3 + 1, none⟩ lv).grownBy wb none) (hs : Su wb sv (cz cs i).sn.toNat) : Bq w (wb.setCell ⟨B, i * 3 + 2, none⟩ sv) B n (i + 1) cs := by
  obtain ⟨ds, h1, h2, h3, h4⟩ := h.d
  have a1 := h1.gb ha (by simp)
  have g1 : wa.grownBy (wa.setCell ⟨B, i * 3 + 1, none⟩ lv) (some B) := gb_set (gb_refl _ _) _ _ _
  have a2 := a1.set (i * 3 + 1) lv
  have a3 := a2.gb hb (by simp)
  have g2 : wb.grownBy (wb.setCell ⟨B, i * 3 + 2, none⟩ sv) (some B) := gb_set (gb_refl _ _) _ _ _
  have a4 := a3.set (i * 3 + 2) sv
  refine ⟨⟨_, a4, by simp [h2], fun v hv => ?_, fun v hv hvn => ?_⟩, gb_new (gb_trans (gb_none (gb_new (gb_trans (gb_none (gb_trans h.g ha)) (gb_trans g1 (gb_none hb))) h.b)) g2) h.b, h.b⟩
  · rcases (show v < i ∨ v = i by omega) with hlt | rfl
    · refine Co.cells (((((h3 v hlt).grow ha).past a1 g1).grow hb).past a3 g2) (fun j hj => ?_)
      rw [Array.getElem?_setIfInBounds_ne (by omega), Array.getElem?_setIfInBounds_ne (by omega)]
    · refine ⟨?_, ⟨lv, ?_, ?_⟩, ⟨sv, ?_, ?_⟩⟩
      · rw [Array.getElem?_setIfInBounds_ne (by omega), Array.getElem?_setIfInBounds_ne (by omega)]
        exact h4 v (Nat.le_refl _) hi
      · rw [Array.getElem?_setIfInBounds_ne (by omega)]
        exact Array.getElem?_setIfInBounds_self_of_lt (by omega)
      · obtain ⟨b, ls, e, k2, k3⟩ := hl
        refine ⟨b, ls, e, ((k2.gb g1 (fun e => blk_ne k2 a1 (by decide) (Option.some.inj e))).gb hb (by simp)).gb g2 (fun e => blk_ne ((k2.gb g1 (fun e => blk_ne k2 a1 (by decide) (Option.some.inj e))).gb hb (by simp)) a3 (by decide) (Option.some.inj e)), fun j hj => ?_⟩
        obtain ⟨c, j1, j2⟩ := k3 j hj
        exact ⟨c, ((j1.gb g1 (fun b cs hb' e => blk_ne hb' a1 (by decide) (Option.some.inj e))).grow hb).gb g2 (fun b cs hb' e => blk_ne hb' a3 (by decide) (Option.some.inj e)), j2⟩
      · exact Array.getElem?_setIfInBounds_self_of_lt (by simp; omega)
      · obtain ⟨b, ls, e, k2, k3⟩ := hs
        exact ⟨b, ls, e, k2.gb g2 (fun e => blk_ne k2 a3 (by decide) (Option.some.inj e)), k3⟩
  · rw [Array.getElem?_setIfInBounds_ne (by omega), Array.getElem?_setIfInBounds_ne (by omega)]
    exact h4 v (by omega) hvn
set_option maxHeartbeats 8000000 in
set_option maxRecDepth 100000 in
theorem bd_any (ao : Option Addr) (n cap : Nat) (cs : List Cz) (hn : cs.length = n) (hok : OkC cs) (w : World) (hin : Cs w ao cs) :
    Calls Try.prog 9 #[.slice ao n cap] w fun e w' => ∃ B, e = .returned (.slice (some ⟨B, 0, none⟩) n n) ∧ Ic w' B cs ∧ w.grownBy w' none := by
  have hn4 : n ≤ 4096 := by rw [← hn]; exact hok.1
  have H := Lib.hid (And.intro hin (And.intro hn hok))
  clear hin hn hok
  go_enter Try.func9, Try.ntmps9
  go_upto_region 2 with (at_make; refine wpList_make_blk w rfl _ _ 30 rfl 58 _ 3 72 Try.underlying30 zinfo58 n rfl rfl (by omega) (by unfold maxLen; omega) ?_; intro w1 hb1 hg1; have H1 := Lib.hid (And.intro hb1 hg1); clear hb1 hg1)
  obtain ⟨B, hB⟩ : ∃ B, w.heap.size = B := ⟨_, rfl⟩
  rw [hB]
  have H0 : Hid (Bq w w1 B n 0 cs ∧ w.heap.size = B) := Lib.hid (by
    have h := H1.out.1
    rw [hB] at h
    exact ⟨⟨⟨_, h, by simp [madeCells], fun v hv => by omega, fun v _ hv => (made_at _ 3 n v 0 rfl hv (by omega)).trans rfl⟩, H1.out.2, by omega⟩, hB⟩)
  clear H1 hB
  go_wp2_with fail
  go_loopg [4] n (fun k x wx => ∃ i : Nat, x = .int .i64 (i : Int) ∧ i ≤ n ∧ n - i ≤ k ∧ Hid (Bq w wx B n i cs))
  case atStart => exact ⟨0, rfl, by omega, by omega, Lib.hid H0.out.1⟩
  case round =>
    obtain ⟨i, rfl, hi, hk, HB⟩ := hrel
    obtain ⟨wz, rfl⟩ : ∃ wz : World, wz = wr := ⟨_, rfl⟩
    obtain ⟨gO, rfl⟩ : ∃ gO, gO = gk := ⟨_, rfl⟩
    rcases (show n = i ∨ i < n by omega) with he | hlt
    · subst he
      go_wp2_with fail
      go_ret
      exact ⟨_, rfl, HB.out.ic H.out.2.1, HB.out.g⟩
    · obtain ⟨b, off, hao, lb0, hc⟩ := H.out.1.at (i := i) (by rw [H.out.2.1]; exact hlt)
      cases hao
      have hbel := below_of HB.out.g
      obtain ⟨la, lc, c0w, hla⟩ := hc.c0
      have c1w := hc.c1
      have hcz := H.out.2.2.2 i (by rw [H.out.2.1]; exact hlt)
      obtain ⟨z, hz⟩ : ∃ z, cz cs i = z := ⟨_, rfl⟩
      rw [hz] at c0w c1w hla hcz
      obtain ⟨m, hm⟩ : ∃ m, z.ls.length = m := ⟨_, rfl⟩
      obtain ⟨s, hs⟩ : ∃ s : Nat, z.sn = (s : Int) := ⟨z.sn.toNat, by omega⟩
      rw [hm] at c0w hcz
      rw [hs] at c1w hcz
      have hm2 : m ≤ 65536 := hcz.1
      have hs2 : s ≤ 65536 := by have := hcz.2.2; omega
      have HLB := Lib.hid (And.intro lb0 (And.intro c0w c1w))
      have HZ := Lib.hid (And.intro hz (And.intro hm (And.intro hs hla)))
      have c0 := (hbel.cell (p := ⟨b, off + i * 2, none⟩) lb0).trans c0w
      have lb : b < wz.heap.size := Nat.lt_of_lt_of_le lb0 hbel.size
      clear hc hz hm hs hla lb0 c0w c1w hbel hcz
      go_upto_region 6 with (at_make; refine wpList_make_blk wz rfl _ _ 48 rfl 55 _ 7 40 Try.underlying48 zinfo55 m rfl rfl (by omega) (by unfold maxLen; omega) ?_; intro w2 hb2 hg2; have H2 := Lib.hid (And.intro hb2 hg2); clear hb2 hg2)
      obtain ⟨L, hL⟩ : ∃ L, wz.heap.size = L := ⟨_, rfl⟩
      try rw [hL]
      have H3 : Hid (Tq w2 L m 0 z.ls ∧ wz.heap.size = L ∧ wz.grownBy w2 none) := Lib.hid (by
        have h := H2.out.1
        rw [hL] at h
        exact ⟨⟨_, h, by simp [madeCells], fun v hv => by omega, fun v _ hv k hk => made_at _ 7 m v k rfl hv hk⟩, hL, H2.out.2⟩)
      clear H2 hL c0 lb
      go_wp2_with fail
      go_loopg [6] m (fun kk x wx => ∃ j : Nat, x = .int .i64 (j : Int) ∧ j ≤ m ∧ m - j ≤ kk ∧ Hid (Tq wx L m j z.ls ∧ wz.grownBy wx none))
      case atStart => exact ⟨0, rfl, by omega, by omega, Lib.hid ⟨H3.out.1, H3.out.2.2⟩⟩
      case round =>
        obtain ⟨j, rfl, hj, hjk, HJ⟩ := hrel
        obtain ⟨wy, rfl⟩ : ∃ wy : World, wy = wr := ⟨_, rfl⟩
        have hgy := gb_trans HB.out.g HJ.out.2
        have hbel := below_of hgy
        rcases (show m = j ∨ j < m by omega) with he | hltj
        · subst he
          obtain ⟨ds, h1, h2, h3, h4⟩ := HB.out.d
          have hb := h1.gb HJ.out.2 (by simp)
          have HBB := Lib.hid (And.intro hb h2)
          have f1 := hb.free (i * 3 + 1)
          obtain ⟨v1, k1⟩ := hb.has (i := i * 3 + 1) (by omega)
          have lB := hb.lt
          have HG5 : Hid (w.grownBy (wy.setCell ⟨B, i * 3 + 1, none⟩ (.slice (some ⟨L, 0, none⟩) m m)) none) := Lib.hid (gb_new (gb_trans (gb_none hgy) (gb_set (gb_refl _ _) _ _ _)) HB.out.b)
          have HB5 := Lib.hid (hb.set (i * 3 + 1) (.slice (some ⟨L, 0, none⟩) m m))
          clear h1 h2 h3 h4 hb hbel hgy
          go_upto_region 13 with fail
          clear f1 k1 v1 lB
          obtain ⟨w5, hw5⟩ : ∃ w5, wy.setCell ⟨B, i * 3 + 1, none⟩ (.slice (some ⟨L, 0, none⟩) m m) = w5 := ⟨_, rfl⟩
          rw [hw5] at HG5 HB5
          rw [hw5]
          have HW5 := Lib.hid hw5
          clear hw5
          have c1 := ((below_of HG5.out).cell (p := ⟨b, off + i * 2 + 1, none⟩) HLB.out.1).trans HLB.out.2.2
          have lb : b < w5.heap.size := Nat.lt_of_lt_of_le HLB.out.1 HG5.out.size
          obtain ⟨S, hS⟩ : ∃ S, w5.heap.size = S := ⟨_, rfl⟩
          have HSS := Lib.hid hS
          have HMK : Hid (∀ w6 : World, Blk w6 w5.heap.size 55 (madeCells (tkC (.pointer none) ⟨#[]⟩ 0) (s * 7)) → w5.grownBy w6 none → Su w6 (.slice (some ⟨S, 0, none⟩) s s) s ∧ Blk w6 B 58 _ ∧ Bq w (w6.setCell ⟨B, i * 3 + 2, none⟩ (.slice (some ⟨S, 0, none⟩) s s)) B n (i + 1) cs) := Lib.hid (fun w6 hb6 hg6 => by
            rw [HSS.out] at hb6
            have hsu : Su w6 (.slice (some ⟨S, 0, none⟩) s s) s := ⟨S, _, rfl, hb6, fun j hj k hk => made_at _ 7 s j k rfl hj hk⟩
            refine ⟨hsu, HB5.out.gb hg6 (by simp), HB.out.next hlt HJ.out.2 (lv := .slice (some ⟨L, 0, none⟩) m m) ?_ (by rw [HW5.out]; exact hg6) ?_⟩
            · obtain ⟨qs, u1, u2, u3, u4⟩ := HJ.out.1
              rw [HZ.out.1]
              exact ⟨L, qs, by rw [HZ.out.2.1], u1, fun j hj => u3 j (by rw [HZ.out.2.1] at hj; exact hj)⟩
            · rw [HZ.out.1, HZ.out.2.2.1]; exact hsu)
          go_wp2_with (at_make; refine wpList_make_blk w5 rfl _ _ 48 rfl 55 _ 7 40 Try.underlying48 zinfo55 s rfl rfl (by omega) (by unfold maxLen; omega) ?_; intro w6 hb6 hg6; obtain ⟨hsu, hb7, hnx⟩ := HMK.out w6 hb6 hg6; have f2 := hb7.free (i * 3 + 2); have k2 := hb7.has (i := i * 3 + 2) (by simp [HBB.out.2]; omega); obtain ⟨v2, k2⟩ := k2; have l2 := hb7.lt; have HNX := Lib.hid hnx; clear hb6 hg6 hsu hb7 hnx)
          go_roundg (gO - 1)
          case measure => omega
          case rel => exact ⟨i + 1, by go_num, by omega, by omega, HNX⟩
        · have c0 := (hbel.cell (p := ⟨b, off + i * 2, none⟩) HLB.out.1).trans HLB.out.2.1
          have lb : b < wy.heap.size := Nat.lt_of_lt_of_le HLB.out.1 hbel.size
          obtain ⟨b2, off2, e1, lb2, cb⟩ := (HZ.out.2.2.2.kept hbel).at (i := j) (by rw [HZ.out.2.1]; exact hltj)
          cases e1
          obtain ⟨t, ht⟩ : ∃ t, z.ls.getD j false = t := ⟨_, rfl⟩
          rw [ht] at cb
          have HT := Lib.hid ht
          clear hbel ht hgy
          cases t
          · go_wp2_with fail
            go_roundg (gk - 1)
            case measure => omega
            case rel => exact ⟨j + 1, by go_num, by omega, by omega, Lib.hid ⟨HJ.out.1.step0 hltj HT.out, HJ.out.2⟩⟩
          · go_upto_region 11 with fail
            have hg7 : wy.grownBy ((wy.alloc (.cells #[] 55)).alloc (.cells #[.slice (some ⟨wy.heap.size, 0, none⟩) 0 0] 48)) none := gb_alloc (gb_alloc (gb_refl _ _) _) _
            have hq := Blk.new (wy.alloc (.cells #[] 55)) 48 #[.slice (some ⟨wy.heap.size, 0, none⟩) 0 0]
            rw [show (wy.alloc (.cells #[] 55)).heap.size = wy.heap.size + 1 by simp] at hq
            have H7 := Lib.hid (And.intro hg7 hq)
            clear hg7 hq c0 lb lb2 cb
            generalize (wy.alloc (.cells #[] 55)).alloc (.cells #[.slice (some ⟨wy.heap.size, 0, none⟩) 0 0] 48) = w7 at H7 ⊢
            obtain ⟨qs, u1, u2, _⟩ := HJ.out.1.grow H7.out.1
            have f1 := u1.free (j * 7)
            obtain ⟨v1, k1⟩ := u1.has (i := j * 7) (by omega)
            have l1 := u1.lt
            clear u1
            go_wp2_with fail
            go_roundg (gk - 1)
            case measure => omega
            case rel => exact ⟨j + 1, by go_num, by omega, by omega, Lib.hid ⟨(HJ.out.1.grow H7.out.1).step1 hltj HT.out H7.out.2, gb_new (gb_trans (gb_none (gb_trans HJ.out.2 H7.out.1)) (gb_set (gb_refl _ _) _ _ _)) (by rw [H3.out.2.1]; exact Nat.le_refl _)⟩⟩
end Go.Proofs.Ytgkekeojdiofnaa
