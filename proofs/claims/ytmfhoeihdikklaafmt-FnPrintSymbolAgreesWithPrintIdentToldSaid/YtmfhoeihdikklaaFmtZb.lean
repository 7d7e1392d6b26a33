/-
  The printer with a symbol table and a map of names. No statement of the seat is proved here.
-/
import Derived.Test.YtmfhoeihdikklaaFmtZk
import Derived.Deep.OwnRows
import Derived.BigRegion
namespace Go.Proofs.YtmfhoeihdikklaaFmt
open Go.RowKit
set_option linter.unusedVariables false
set_option linter.unusedSimpArgs false

def zsym (e0 : ByteArray) : Array Value := #[.pointer none, .string e0, .int .u32 0, .int .u32 0, .int .u32 0, .int .u32 0, .int .u32 0, .int .u16 0, .int .u8 0, .int .u8 0]
theorem info55 : (Tryf.prog.info? 55).map (fun i => (i.zero, i.size, i.bytes)) = some (some (.agg (zsym ByteArray.empty)), 10, 48) := by kernel_rfl
theorem info44 : (Tryf.prog.info? 44).map (fun i => (i.zero, i.size, i.bytes)) = some (some (.slice none 0 0), 1, 24) := by kernel_rfl
theorem blk_has {w : World} {S : Nat} {t : TypeId} {cs : Array Value} (h : Blk w S t cs) {i : Nat} (hi : i < cs.size) : ∃ u, w.cell? ⟨S, i, none⟩ = some u := ⟨cs[i], by rw [h.cell, Array.getElem?_eq_getElem hi]⟩
/-- symbol i, laid -/
structure Row (cs : Array Value) (ts : List ByteArray) (ls : List Int) (i : Nat) : Prop where
  name : cs[i * 10 + 1]? = some (.string (tth ts i))
  l2 : cs[i * 10 + 2]? = some (.int .u32 (if nth ls i = 0 then 4294967295 else 0))
  l3 : cs[i * 10 + 3]? = some (.int .u32 (if nth ls i = 0 then 4294967295 else nth ls i - 1))
structure Bt (w : World) (S n k : Nat) (ts : List ByteArray) (ls : List Int) : Prop where
  out : ∃ cs, Blk w S 55 cs ∧ cs.size = 10 * n ∧ ∀ i, i < k → Row cs ts ls i
theorem Bt.step {w' : World} {S n k : Nat} {ts : List ByteArray} {ls : List Int} {cs cs' : Array Value} (hb : Blk w' S 55 cs') (hsz : cs'.size = 10 * n) (h1 : ∀ i, i < k → Row cs ts ls i)
    (ho : ∀ j, j < k * 10 → cs'[j]? = cs[j]?) (hr : Row cs' ts ls k) : Bt w' S n (k + 1) ts ls := by
  refine ⟨cs', hb, hsz, fun i hi => ?_⟩
  by_cases e : i = k
  · subst e; exact hr
  · have h := h1 i (by omega)
    exact ⟨by rw [ho _ (by omega)]; exact h.name, by rw [ho _ (by omega)]; exact h.l2, by rw [ho _ (by omega)]; exact h.l3⟩
/-- the loop's world -/
structure Bw (w wx : World) (S n k : Nat) (ts : List ByteArray) (ls : List Int) : Prop where
  bt : Bt wx S n k ts ls
  bl : Below w.heap.size w wx
  le : w.heap.size ≤ S
/-- .. with the map under way -/
structure Mw (w wx : World) (S n M : Nat) (ts : List ByteArray) (ls ks : List Int) (vs : List ByteArray) (j : Nat) : Prop where
  bw : Bw w wx S n n ts ls
  mp : ∃ D, Mp wx M j D ∧ Lm D ks vs j
  le : w.heap.size ≤ M
theorem mm56 (w : World) : (Instr.makeMap 56 none).run Tryf.prog w = .ok (.map (some w.heap.size)) (w.alloc (.map #[] 0)) := by
  have h := run_underlying Tryf.underlying56 w
  simp [Instr.makeMap, h, Result.andThen, go_sem]
def NsP (w : World) (B : Nat) (a : Bool) (zs : List Int) (ts : List ByteArray) (ls ks : List Int) (vs : List ByteArray) (n l3 : Nat) (e : Ending) (w' : World) : Prop :=
  ∃ p S T M D, e = .returned (.pointer (some ⟨p, 0, none⟩)) ∧ Pr w' B p 0 false a (some M) (some ⟨T, 0, none⟩, 1) zs 0 0 ∧ Bt w' S n n ts ls ∧ Blk w' T 44 #[.slice (some ⟨S, 0, none⟩) n n] ∧ Mp w' M l3 D ∧ Lm D ks vs l3 ∧ Below w.heap.size w w' ∧ w.heap.size ≤ S ∧ w.heap.size ≤ T ∧ w.heap.size ≤ M
set_option maxHeartbeats 4000000 in
set_option maxRecDepth 100000 in
theorem ns_print (a0 a2 a3 a4 a5 : Option Addr) (k0 n l2 l3 c0 p2 p3 p4 p5 : Nat) (a : Bool) (zs : List Int) (ts vs : List ByteArray) (ls ks : List Int) (h0 : zs.length = k0) (h2 : ts.length = n) (h3 : ls.length = n) (h4 : ks.length = l3) (h5 : vs.length = l3)
    (hl : ∀ i, i < ls.length → 0 ≤ nth ls i ∧ nth ls i < 4294967296) (hk : ∀ i, i < ks.length → 0 ≤ nth ks i ∧ nth ks i < 4294967296) (n1 : n ≤ 65536) (n3 : l3 ≤ 65536) (hvs : ∀ i, i < l3 → (tth vs i).size ≤ 1048576)
    (w : World) (B : Nat) (hB : B ≤ w.heap.size) (ho : Own .u8 5 w B (.slice a0 k0 c0) zs) (i2 : InS w a2 ts) (i3 : In .u32 w a3 ls) (i4 : In .u32 w a4 ks) (i5 : InS w a5 vs) :
    Calls Tryf.prog 12 #[.slice a0 k0 c0, .bool a, .slice a2 n p2, .slice a3 n p3, .slice a4 l3 p4, .slice a5 l3 p5] w (NsP w B a zs ts ls ks vs n l3) := by
  subst h0
  have HI := Lib.hid (And.intro i2 (And.intro i3 (And.intro i4 (And.intro i5 (And.intro hl (And.intro hk (And.intro hvs ho)))))))
  clear i2 i3 i4 i5 hl hk hvs ho
  obtain ⟨S, hS⟩ : ∃ S, w.heap.size = S := ⟨_, rfl⟩
  go_enter Tryf.func12, Tryf.ntmps12
  go_upto_region 2 with (at_make; obtain ⟨i0, hi0, hz0, hz1, hz2⟩ := info_parts info55; refine wpList_make_full w rfl _ _ 44 rfl w.heap.size 55 i0 _ 10 Tryf.underlying44 hi0 hz0 hz1 .i64 .i64 n n n rfl rfl rfl rfl (by rw [hz2]; omega) (by unfold maxLen; omega) (Nat.le_refl _) ?_; intro w2 ho2 hg2; have HM := Lib.hid (And.intro ho2 hg2); clear ho2 hg2)
  have H0 : Hid (Bw w w2 S n 0 ts ls) := Lib.hid (by
    refine ⟨?_, (Below.refl _ _).grown HM.out.2 (Nat.le_refl _) (fun k hk => by cases hk), by omega⟩
    rcases HM.out.1.2 with ⟨h, hm⟩ | ⟨g, cap, cur, hv, _, hh, _, _, hcs, htk⟩
    · cases h
    · simp only [Value.slice.injEq, Option.some.injEq, Addr.mk.injEq, and_true, true_and] at hv
      obtain ⟨rfl, rfl⟩ := hv
      rw [hS] at hh
      exact ⟨cur, hh, by omega, fun i hi => by omega⟩)
  clear HM
  have HSS := Lib.hid hS
  clear hS
  go_wp2_with fail
  go_loopg [14] n (fun k x wx => ∃ i : Nat, x = .int .i64 (i : Int) ∧ i ≤ n ∧ n - i ≤ k ∧ Hid (Bw w wx S n i ts ls))
  case atStart => exact ⟨0, rfl, by omega, by omega, H0⟩
  case round =>
    obtain ⟨i, rfl, hi, hk, HB⟩ := hrel
    obtain ⟨wz, rfl⟩ : ∃ wz : World, wz = wr := ⟨_, rfl⟩
    rcases (show i = n ∨ i < n by omega) with he | hlt
    · subst he
      have hmk := mm56 wz
      go_upto_region 10 with fail
      clear hmk
      obtain ⟨M, hM⟩ : ∃ M, wz.heap.size = M := ⟨_, rfl⟩
      obtain ⟨wm, hwm⟩ : ∃ wm, wz.alloc (.map #[] 0) = wm := ⟨_, rfl⟩
      have HS0 : Hid (Mw w wm S i M ts ls ks vs 0) := Lib.hid (by
        rw [← hwm, ← hM]
        obtain ⟨cs, q1, q2, q3⟩ := HB.out.bt.out
        exact ⟨⟨⟨cs, q1.alloc _, q2, q3⟩, HB.out.bl.alloc HB.out.bl.size _, HB.out.le⟩, ⟨_, Mp.fresh (blk_new _ _), Lm.nil _ _⟩, HB.out.bl.size⟩)
      rw [hwm]
      try rw [hM]
      clear hM hwm HB hk
      go_wp2_with fail
      go_loopg [16] l3 (fun k x wx => ∃ j : Nat, x = .int .i64 (j : Int) ∧ j ≤ l3 ∧ l3 - j ≤ k ∧ Hid (Mw w wx S i M ts ls ks vs j))
      case atStart => exact ⟨0, rfl, by omega, by omega, HS0⟩
      case round =>
        obtain ⟨j, rfl, hj, hkj, HW⟩ := hrel
        obtain ⟨wy, rfl⟩ : ∃ wy : World, wy = wr := ⟨_, rfl⟩
        rcases (show j = l3 ∨ j < l3 by omega) with he2 | hlt2
        · subst he2
          obtain ⟨T, hT⟩ : ∃ T, wy.heap.size = T := ⟨_, rfl⟩
          have HTT := Lib.hid hT
          obtain ⟨w7, hw7⟩ : ∃ w7, wy.alloc (.cells #[.slice (some ⟨S, 0, none⟩) i i] 44) = w7 := ⟨_, rfl⟩
          have HW7 := Lib.hid hw7
          go_wp2_with (first
            | (refine wpList_build rfl 64 _ rfl [(7, .bool a), (2, .map (some M))] rfl (optCells 0 false a (some M)) (build64b a M) ?_)
            | (refine wpList_build rfl 79 _ rfl [(0, .agg (optCells 0 false a (some M))), (1, .agg #[.slice (some ⟨T, 0, none⟩) 1 1]), (3, .slice a0 zs.length c0)] rfl (prCells 0 false a (some M) (some ⟨T, 0, none⟩, 1) (.slice a0 zs.length c0) 0 0) (build79b a M T a0 zs.length c0) ?_))
          go_ret
          obtain ⟨D, hmp, hlm⟩ := HW.out.mp
          have hb0 := HW.out.bw.bl
          have hw := HW7.out
          have hb1 : Below w.heap.size w w7 := by rw [← hw]; exact hb0.alloc hb0.size _
          have h67 : wy.grownBy w7 none := by rw [← hw]; exact gb_alloc (gb_refl _ _) _
          have hTb : Blk w7 T 44 #[.slice (some ⟨S, 0, none⟩) i i] := by rw [← hw, ← HTT.out]; exact Blk.new _ _ _
          have ho7 : Own .u8 5 w7 B (.slice a0 zs.length c0) zs := HI.out.2.2.2.2.2.2.2.kept hb1
          obtain ⟨cs, r1, r2, r3⟩ := HW.out.bw.bt.out
          have g78 := gb_alloc (gb_refl w7 none) (.cells (prCells 0 false a (some M) (some ⟨T, 0, none⟩, 1) (.slice a0 zs.length c0) 0 0) 79)
          refine ⟨_, S, T, M, D, rfl, ⟨a0, c0, Blk.new _ _ _, ho7.alloc _, fun e => ?_, Nat.le_trans hB hb1.size⟩, ⟨cs, (r1.gb h67 (by simp)).gb g78 (by simp), r2, r3⟩, hTb.gb g78 (by simp), (hmp.kept h67 (by simp)).kept g78 (by simp), hlm, hb1.alloc hb1.size _, HW.out.bw.le, by rw [← HTT.out]; exact hb0.size, HW.out.le⟩
          have := (ho7.lt _ e).2
          omega
        · obtain ⟨b4, o4, rfl, lt4, c4⟩ := (HI.out.2.2.1.kept HW.out.bw.bl).at (i := j) (by omega)
          obtain ⟨b5, o5, rfl, lt5, c5⟩ := (HI.out.2.2.2.1.kept HW.out.bw.bl).at (i := j) (by omega)
          have hkj2 := HI.out.2.2.2.2.2.1 j (by omega)
          have hvj := HI.out.2.2.2.2.2.2.1 j hlt2
          obtain ⟨y, hy⟩ : ∃ y : Nat, nth ks j = (y : Int) := ⟨(nth ks j).toNat, by omega⟩
          obtain ⟨t, ht⟩ : ∃ t, tth vs j = t := ⟨_, rfl⟩
          rw [hy] at c4 hkj2
          rw [ht] at c5 hvj
          have HY := Lib.hid (And.intro hy ht)
          clear hy ht
          obtain ⟨D, hmp, hlm⟩ := HW.out.mp
          obtain ⟨w6, hup, hmp6, hg6⟩ := put_at (s := t) (t := y) (show Mp wy.drew M j D from hmp) (by unfold maxLen; omega) (by omega) (by unfold maxLen; omega)
          have HN : Hid (Mw w w6 S i M ts ls ks vs (j + 1)) := Lib.hid (by
            obtain ⟨cs, q1, q2, q3⟩ := HW.out.bw.bt.out
            have hg : wy.grownBy w6 (some M) := ⟨hg6.os, hg6.tape, hg6.output, hg6.size, hg6.block⟩
            have hne : some S ≠ some M := fun e => by
              have e := Option.some.inj e
              obtain ⟨es, clock, hb, _⟩ := hmp
              unfold Blk at q1
              rw [e] at q1
              have hb' : wy.heap[M]? = _ := hb
              rw [q1] at hb'
              cases hb'
            have hp := hlm.put (t := y) (by omega) HY.out.1
            rw [HY.out.2] at hp
            exact ⟨⟨⟨cs, q1.gb hg hne, q2, q3⟩, HW.out.bw.bl.grown hg HW.out.bw.bl.size (fun k hk => by cases hk; exact HW.out.le), HW.out.bw.le⟩, ⟨_, hmp6, hp⟩, HW.out.le⟩)
          have c4' : wy.drew.cell? ⟨b4, o4 + j, none⟩ = some (.int .u32 (y : Int)) := c4
          have c5' : wy.drew.cell? ⟨b5, o5 + j, none⟩ = some (.string t) := c5
          clear hmp hlm hmp6 hg6 c4 c5 hkj2 hvj
          go_upto_region 13 with fail
          go_region
          go_wp2_with fail
          go_roundg (gk - 1)
          case measure => omega
          case rel => exact ⟨j + 1, by go_num, by omega, by omega, HN⟩
    · have hbl := HB.out.bl
      obtain ⟨b2, o2, rfl, lt2, c2⟩ := (HI.out.1.kept hbl).at (i := i) (by omega)
      obtain ⟨b3, o3, rfl, lt3, c3⟩ := (HI.out.2.1.kept hbl).at (i := i) (by omega)
      have hlt3 := HI.out.2.1.at (i := i) (by omega)
      have hl3 := HI.out.2.2.2.2.1 i (by omega)
      obtain ⟨t, ht⟩ : ∃ t, tth ts i = t := ⟨_, rfl⟩
      obtain ⟨z, hz⟩ : ∃ z : Nat, nth ls i = (z : Int) := ⟨(nth ls i).toNat, by omega⟩
      rw [ht] at c2
      rw [hz] at c3 hl3
      obtain ⟨cs, q1, q2, q3⟩ := HB.out.bt.out
      have HX := Lib.hid (And.intro ht (And.intro hz (And.intro q1 (And.intro q2 (And.intro q3 (And.intro c3 hlt3))))))
      clear ht hz c3 q3 hlt3 hbl
      have hs3 : b3 ≠ S := by
        obtain ⟨b, o, e, hb, _⟩ := HX.out.2.2.2.2.2.2
        cases e
        have := HB.out.le
        omega
      have n1 := q1.free (i * 10 + 1)
      obtain ⟨v1, k1⟩ := blk_has q1 (i := i * 10 + 1) (by omega)
      have m1 := q1.set (i * 10 + 1) (.string t)
      have n2 := m1.free (i * 10 + 2)
      obtain ⟨v2, k2⟩ := blk_has m1 (i := i * 10 + 2) (by simp; omega)
      have m2 := m1.set (i * 10 + 2) (.int .u32 4294967295)
      have n3' := m2.free (i * 10 + 2 + 1)
      obtain ⟨v3, k3⟩ := blk_has m2 (i := i * 10 + 2 + 1) (by simp; omega)
      have m3 := m2.set (i * 10 + 2 + 1) (.int .u32 4294967295)
      have hSl := q1.lt
      have HM3 := Lib.hid m3
      clear m1 m2 m3 q1 q2
      go_upto_region 7 with fail
      obtain ⟨w3, hw3⟩ : ∃ w3, ((wz.setCell ⟨S, i * 10 + 1, none⟩ (.string t)).setCell ⟨S, i * 10 + 2, none⟩ (.int .u32 4294967295)).setCell ⟨S, i * 10 + 2 + 1, none⟩ (.int .u32 4294967295) = w3 := ⟨_, rfl⟩
      have hg3 : wz.grownBy w3 (some S) := by rw [← hw3]; exact gb_set (gb_set (gb_set (gb_refl _ _) _ _ _) _ _ _) _ _ _
      have hb3 := HM3.out
      rw [hw3] at hb3
      rw [hw3]
      clear hw3 k1 k2 k3 n1 n2 n3' c2
      have c3 : w3.cell? ⟨b3, o3 + i, none⟩ = some (.int .u32 (z : Int)) := (World.cell?_of_block (w := wz) (hg3.block b3 lt3 (fun e => hs3 (Option.some.inj e)))).trans HX.out.2.2.2.2.2.1
      have hfin : ∀ (w5 : World) (cs5 : Array Value), Blk w5 S 55 cs5 → wz.grownBy w5 (some S) → cs5.size = 10 * n → (∀ j, j < i * 10 → cs5[j]? = cs[j]?) → Row cs5 ts ls i → Hid (Bw w w5 S n (i + 1) ts ls) := fun w5 cs5 r1 r2 r3 r4 r5 =>
        Lib.hid ⟨Bt.step r1 r3 HX.out.2.2.2.2.1 r4 r5, HB.out.bl.grown r2 HB.out.bl.size (fun k hk => by have := Option.some.inj hk; have := HB.out.le; omega), HB.out.le⟩
      have HFIN := Lib.hid hfin
      have HG3 := Lib.hid hg3
      clear hfin hg3
      by_cases z0 : z = 0
      · subst z0
        have HB3 := Lib.hid hb3
        clear hb3
        go_wp2_with fail
        go_roundg (gk - 1)
        case measure => omega
        case rel =>
          have hq := HX.out.2.2.2.1
          exact ⟨i + 1, by go_num, by omega, by omega, HFIN.out w3 _ HB3.out HG3.out (by simp [hq]) (fun j hj => by repeat rw [Array.getElem?_setIfInBounds_ne (by omega)]) ⟨by
            rw [Array.getElem?_setIfInBounds_ne (by omega), Array.getElem?_setIfInBounds_ne (by omega), HX.out.1]
            exact Array.getElem?_setIfInBounds_self_of_lt (by omega), by
            rw [Array.getElem?_setIfInBounds_ne (by omega), HX.out.2.1, if_pos (by rfl)]
            exact Array.getElem?_setIfInBounds_self_of_lt (by simp; omega), by
            rw [HX.out.2.1, if_pos (by rfl)]
            exact Array.getElem?_setIfInBounds_self_of_lt (by simp; omega)⟩⟩
      · have d0 : decide ((z : Int) = 0) = false := by simp; omega
        have d0' : ((z : Int) == 0) = false := by simp; omega
        have wy : IntKind.u32.wrap ((z : Int) - 1) = (z : Int) - 1 := by rw [IntKind.wrap_u32]; omega
        have hq := HX.out.2.2.2.1
        have n2 := hb3.free (i * 10 + 2)
        obtain ⟨v2, k2⟩ := blk_has hb3 (i := i * 10 + 2) (by simp; omega)
        have m2 := hb3.set (i * 10 + 2) (.int .u32 0)
        have n3' := m2.free (i * 10 + 2 + 1)
        obtain ⟨v3, k3⟩ := blk_has m2 (i := i * 10 + 2 + 1) (by simp; omega)
        have HM2 := Lib.hid (m2.set (i * 10 + 2 + 1) (.int .u32 ((z : Int) - 1)))
        have hSl3 := hb3.lt
        have HZ := Lib.hid z0
        clear m2 hb3 hl3
        go_wp2_with fail
        go_roundg (gk - 1)
        case measure => clear wy; omega
        case rel =>
          have hz0 := HZ.out
          clear wy
          exact ⟨i + 1, by go_num, by omega, by omega, HFIN.out _ _ HM2.out (gb_set (gb_set HG3.out _ _ _) _ _ _) (by simp [hq]) (fun j hj => by repeat rw [Array.getElem?_setIfInBounds_ne (by omega)]) ⟨by
            rw [Array.getElem?_setIfInBounds_ne (by omega), Array.getElem?_setIfInBounds_ne (by omega), Array.getElem?_setIfInBounds_ne (by omega), Array.getElem?_setIfInBounds_ne (by omega), HX.out.1]
            exact Array.getElem?_setIfInBounds_self_of_lt (by omega), by
            rw [Array.getElem?_setIfInBounds_ne (by omega), HX.out.2.1, if_neg (by omega)]
            exact Array.getElem?_setIfInBounds_self_of_lt (by simp; omega), by
            rw [HX.out.2.1, if_neg (by omega)]
            exact Array.getElem?_setIfInBounds_self_of_lt (by simp; omega)⟩⟩
end Go.Proofs.YtmfhoeihdikklaaFmt
