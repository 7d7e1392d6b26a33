/-
  buildAdvance, walked. No statement of the seat is proved here.
-/
import Derived.Test.YtgollalliomhfaaDoorBz
import Derived.Deep.CutBlock
namespace Go.Proofs.YtgollalliomhfaaDoor
open Go.Maps Go.ChangeShapes Go.WideShapes Go.RowKit
set_option linter.unusedVariables false
set_option linter.unusedSimpArgs false

theorem u32_small (i : Nat) (h : i < 4294967296) : IntKind.u32.wrap (i : Int) = (i : Int) := by rw [IntKind.wrap_u32]; omega
noncomputable def lf2 (P O : Nat) (ld : Int) : Array Value := (lfL P ld ++ lfL O 10).toArray
theorem bs25 (P O : Nat) (ld : Int) (w : World) : (Instr.buildSlice 25 2 #[(0, .agg (lfC P ld)), (1, .agg (lfC O 10))]).run Tryd.prog w = .ok (.slice (some ⟨w.heap.size, 0, none⟩) 2 2) (w.alloc (.cells (lf2 P O ld) 125)) := by kernel_rfl
/-- a slice literal whose cells stay behind a name -/
theorem wpList_slice {P : Program} {ops : Array Oper} {rest : List Oper} {o : Oper} {a : Act} {w : World} {Q : Exit → Act → World → Prop} (hgd : o.guard = none) (t : TypeId) (len : Nat) (parts : Array (Nat × Operand)) (ho : o.op = .buildSlice t len parts)
    (vals : List (Nat × Value)) (hv : (parts.toList.map fun p => (p.1, a.eval p.2)) = vals) (cs : Array Value) (e : TypeId) (hb : ∀ w, (Instr.buildSlice t len vals.toArray).run P w = .ok (.slice (some ⟨w.heap.size, 0, none⟩) len len) (w.alloc (.cells cs e)))
    (h : wpList P ops Q rest (a.put o.dst (.slice (some ⟨w.heap.size, 0, none⟩) len len)) (w.alloc (.cells cs e))) : wpList P ops Q (o :: rest) a w :=
  wpList_plain hgd fun _ hK => by
    have hv' : (parts.map fun (i, x) => (i, a.eval x)) = vals.toArray := by rw [← hv]; apply Array.ext'; simp
    unfold Oper.wp execOp
    simp only [ho, hv', hb, Sem.run_bind, Result.andThen_ok]
    exact hK _ _ h
/-- the imported file and its exports -/
structure Op (w : World) (O M2 n : Nat) (ts : List ByteArray) (so : Option Nat) (lazy : Bool) (kl : Int) (ur um : Bool) (kd : Int) : Prop where
  o : ∃ cs, Blk w O 85 cs ∧ Of cs M2 so lazy kl ur um kd
  x : Rx w M2 (M2 + 1) n ts
  s : ∀ S, so = some S → ∃ A, Blk w S 103 (stC A) ∧ Blk w A 40 im2
theorem Op.grow {w w' : World} {O M2 n : Nat} {ts : List ByteArray} {so : Option Nat} {lazy : Bool} {kl : Int} {ur um : Bool} {kd : Int} (h : Op w O M2 n ts so lazy kl ur um kd) (hg : w.grownBy w' none) : Op w' O M2 n ts so lazy kl ur um kd := by
  obtain ⟨cs, h1, h2⟩ := h.o
  refine ⟨⟨cs, h1.gb hg (by simp), h2⟩, h.x.gb hg (by simp) (fun b e => by cases e), fun S e => ?_⟩
  obtain ⟨A, k1, k2⟩ := h.s S e
  exact ⟨A, k1.gb hg (by simp), k2.gb hg (by simp)⟩
theorem Ip.grow {w w' : World} {P R M1 : Nat} {a : ByteArray} {star ex rv : Bool} (h : Ip w P R M1 a star ex rv) (hg : w.grownBy w' none) : Ip w' P R M1 a star ex rv := h.gb hg (by simp) (by simp) (by simp)
set_option maxHeartbeats 4000000 in
set_option maxRecDepth 100000 in
theorem ba_any (a : ByteArray) (star ex rv lazy : Bool) (kl : Int) (ur um : Bool) (kd : Int) (ao : Option Addr) (n cap : Nat) (ts : List ByteArray) (hn : ts.length = n) (hs tx : Bool) (n4 : n ≤ 4096) (hsz : ∀ i, i < n → (tth ts i).size ≤ maxLen)
    (w : World) (hin : InS w ao ts) :
    Calls Tryd.prog 6 #[.string a, .bool star, .bool ex, .bool rv, .bool lazy, .int .i32 kl, .bool ur, .bool um, .int .u8 kd, .slice ao n cap, .bool hs, .bool tx] w fun e w' => ∃ F P R M1 O M2 so, e = .returned (.slice (some ⟨F, 0, none⟩) 2 2) ∧ so.isSome = hs ∧ Blk w' F 125 (lf2 P O (ldI tx)) ∧ Ip w' P R M1 a star ex rv ∧ Op w' O M2 n ts so lazy kl ur um kd ∧ w.grownBy w' none := by
  have HI := Lib.hid (And.intro hin hsz)
  clear hin hsz
  have hmk := mm75 (w.alloc (.cells zjs 85))
  obtain ⟨P, hP⟩ : ∃ P, w.heap.size = P := ⟨_, rfl⟩
  have hb0 := Blk.new w 85 zjs
  have hb1 := hb0.alloc (.map #[] 0)
  rw [hP] at hb1
  have n1 := hb1.free 36
  obtain ⟨v1, k1⟩ := hb1.has (i := 36) (by rw [zjs_size]; omega)
  have hlt1 := hb1.lt
  clear hb0 hb1
  go_enter Tryd.func6, Tryd.ntmps6
  go_upto_region 3 with (refine wpList_build rfl 85 _ rfl [] rfl zjs build85 ?_)
  clear hmk n1 k1 hlt1
  obtain ⟨w1, hw1⟩ : ∃ w1, ((w.alloc (Obj.cells (zjs.setIfInBounds 36 (Value.map (some (P + 1)))) 85)).alloc (Obj.map #[] 0)) = w1 := ⟨_, rfl⟩
  obtain ⟨z1, hz1⟩ : ∃ z1, zjs.setIfInBounds 36 (Value.map (some (P + 1))) = z1 := ⟨_, rfl⟩
  have H1 : Hid (Blk w1 P 85 z1 ∧ z1.size = 64 ∧ z1[36]? = some (.map (some (P + 1))) ∧ Mv Tryd.prog 31 w1 (P + 1) 0 (.map []) ∧ w.grownBy w1 none ∧ w.heap.size = P) := Lib.hid (by
    refine ⟨?_, ?_, ?_, ?_, ?_, hP⟩
    · rw [← hw1, ← hz1, ← hP]; exact (Blk.new _ _ _).alloc _
    · rw [← hz1]; simp [zjs_size]
    · rw [← hz1]; exact Array.getElem?_setIfInBounds_self_of_lt (by rw [zjs_size]; omega)
    · rw [← hw1]
      have := blk_new (w.alloc (Obj.cells (zjs.setIfInBounds 36 (Value.map (some (P + 1)))) 85)) (.map #[] 0)
      rw [show (w.alloc (Obj.cells (zjs.setIfInBounds 36 (Value.map (some (P + 1)))) 85)).heap.size = w.heap.size + 1 by simp, hP] at this
      exact Mv.fresh this
    · rw [← hw1]; exact gb_alloc (gb_alloc (gb_refl _ _) _) _)
  rw [hw1]
  clear hw1 hz1 hP
  obtain ⟨w2, hup, hm2, hg2⟩ := Mv.put H1.out.2.2.2.1 keyed31 Tryd.underlying75 (by unfold maxLen; omega) (val := .agg (niC a star ex)) keyOf_0
  have H2 : Hid (Blk w2 P 85 z1 ∧ Mv Tryd.prog 31 w2 (P + 1) 1 ((DataW.map []).put kr0 (.held (.agg (niC a star ex)))) ∧ w.grownBy w2 none) := Lib.hid ⟨H1.out.1.gb hg2 (by simp), hm2, gb_new (gb_trans (gb_none H1.out.2.2.2.2.1) hg2) (by rw [H1.out.2.2.2.2.2]; omega)⟩
  have k1 := (H1.out.1.cell 36).trans H1.out.2.2.1
  have hlt1 := H1.out.1.lt
  simp only [refV, niC] at hup
  clear hm2 hg2
  go_upto_region 4 with fail
  clear hup k1 hlt1
  obtain ⟨R, hR⟩ : ∃ R, w2.heap.size = R := ⟨_, rfl⟩
  go_upto_region 5 with (at_make; obtain ⟨i0, hi0, hz0, hz1, hz2⟩ := info_parts info101; refine wpList_make_full w2 rfl _ _ 74 rfl w2.heap.size 101 i0 _ 15 Tryd.underlying74 hi0 hz0 hz1 .i64 .i64 1 1 1 rfl rfl rfl rfl (by rw [hz2]; omega) (by unfold maxLen; omega) (Nat.le_refl _) ?_; intro w3 ho3 hg3; have HM := Lib.hid (And.intro ho3 hg3); clear ho3 hg3)
  have H3 : Hid (Blk w3 P 85 z1 ∧ Blk w3 R 101 zrc ∧ Mv Tryd.prog 31 w3 (P + 1) 1 ((DataW.map []).put kr0 (.held (.agg (niC a star ex)))) ∧ w.grownBy w3 none ∧ P + 1 < R) := Lib.hid (by
    have hg := HM.out.2
    refine ⟨H2.out.1.gb hg (by simp), ?_, World.ownsMap.kept H2.out.2.1 hg (by simp), gb_trans H2.out.2.2 hg, by rw [← hR]; exact World.ownsMap.lt H2.out.2.1⟩
    rcases HM.out.1.2 with ⟨h, hm⟩ | ⟨g, cap, cur, hv, _, hh, _, _, hcs, htk⟩
    · cases h
    · simp only [Value.slice.injEq, Option.some.injEq, Addr.mk.injEq, and_true, true_and] at hv
      obtain ⟨rfl, rfl⟩ := hv
      rw [hR] at hh
      have hcur : cur = zrc := by
        rw [← zrc_made]
        apply Array.ext'
        rw [← htk, List.take_of_length_le (by simp [hcs])]
      rw [hcur] at hh
      exact hh)
  clear HM H2 hR
  go_upto_if 50 with fail
  go_cut [] (fun wc => Hid (Blk wc P 85 z1 ∧ (∃ cs, Blk wc R 101 cs ∧ cs[10]? = some (.int .u32 (rvI rv))) ∧ Mv Tryd.prog 31 wc (P + 1) 1 ((DataW.map []).put kr0 (.held (.agg (niC a star ex)))) ∧ w.grownBy wc none ∧ P + 1 < R))
  case first =>
    cases rv
    · go_wp2_with fail
      go_meet
      exact Lib.hid ⟨H3.out.1, ⟨_, H3.out.2.1, zrc10⟩, H3.out.2.2⟩
    · go_upto_region 6 with fail
      have hf := H3.out.2.1.free 10
      obtain ⟨v1, k1⟩ := H3.out.2.1.has (i := 10) (by rw [zrc_size]; omega)
      have hRl := H3.out.2.1.lt
      go_wp2_with (go_at_call 10; refine (mk_any 1 (by omega) (by omega) w3).mono ?_; rintro e w4 ⟨rfl, hg4⟩; have hf4 := (H3.out.2.1.gb hg4 (by simp)).free 10; have hc4 := (H3.out.2.1.gb hg4 (by simp)).has (i := 10) (by rw [zrc_size]; omega); obtain ⟨v4, k4⟩ := hc4; have hl4 := (H3.out.2.1.gb hg4 (by simp)).lt; have HG4 := Lib.hid hg4; clear hg4)
      go_meet
      have hg := HG4.out
      have hPR := H3.out.2.2.2.2
      have hwP := H1.out.2.2.2.2.2
      have hP := H3.out.1.lt
      have hP1 := World.ownsMap.lt H3.out.2.2.1
      have gs : w4.grownBy (w4.setCell ⟨R, 10, none⟩ (.int .u32 4294967294)) (some R) := gb_set (gb_refl _ _) _ _ _
      exact Lib.hid ⟨(H3.out.1.gb hg (by simp)).gb gs (by simp; omega), ⟨_, (H3.out.2.1.gb hg (by simp)).set 10 _, Array.getElem?_setIfInBounds_self_of_lt (by rw [zrc_size]; omega)⟩, World.ownsMap.kept (World.ownsMap.kept H3.out.2.2.1 hg (by simp)) gs (by simp; omega), gb_new (gb_trans (gb_none (gb_trans H3.out.2.2.2.1 hg)) gs) (by omega), hPR⟩
  case rest =>
    obtain ⟨wa, rfl⟩ : ∃ wa : World, wa = wc := ⟨_, rfl⟩
    have HC := hcut
    clear hcut H3
    have hb0 := HC.out.1
    have f1 := hb0.free 35
    obtain ⟨v1, k1⟩ := hb0.has (i := 35) (by rw [H1.out.2.1]; omega)
    have hlP := hb0.lt
    have h2 := hb0.set 35 (.slice (some ⟨R, 0, none⟩) 1 1)
    have HP2 := Lib.hid h2
    clear hb0 h2
    go_upto_region 8 with fail
    clear f1 k1
    have HI1 : Hid (Ip (wa.setCell ⟨P, 35, none⟩ (.slice (some ⟨R, 0, none⟩) 1 1)) P R (P + 1) a star ex rv ∧ w.grownBy (wa.setCell ⟨P, 35, none⟩ (.slice (some ⟨R, 0, none⟩) 1 1)) none ∧ P + 1 < R ∧ w.heap.size = P ∧ R < (wa.setCell ⟨P, 35, none⟩ (.slice (some ⟨R, 0, none⟩) 1 1)).heap.size) := Lib.hid (by
      have hPR := HC.out.2.2.2.2
      obtain ⟨cs, r1, r2⟩ := HC.out.2.1
      have hz := H1.out.2.1
      have gs : wa.grownBy (wa.setCell ⟨P, 35, none⟩ (.slice (some ⟨R, 0, none⟩) 1 1)) (some P) := gb_set (gb_refl _ _) _ _ _
      refine ⟨⟨⟨_, HP2.out, Array.getElem?_setIfInBounds_self_of_lt (by omega), ?_⟩, ⟨cs, r1.gb gs (by simp; omega), r2⟩, World.ownsMap.kept HC.out.2.2.1 gs (by simp)⟩, gb_new (gb_trans (gb_none HC.out.2.2.2.1) gs) (by rw [H1.out.2.2.2.2.2]; omega), hPR, H1.out.2.2.2.2.2, Nat.lt_of_lt_of_le r1.lt gs.size⟩
      rw [Array.getElem?_setIfInBounds_ne (by omega)]; exact H1.out.2.2.1)
    generalize wa.setCell ⟨P, 35, none⟩ (.slice (some ⟨R, 0, none⟩) 1 1) = wb at HI1 HP2 ⊢
    clear HP2 HC hlP H1
    obtain ⟨O, hO⟩ : ∃ O, wb.heap.size = O := ⟨_, rfl⟩
    go_upto_region 9 with (refine wpList_build rfl 85 _ rfl [] rfl zjs build85 ?_)
    have hb0 := Blk.new wb 85 zjs
    rw [hO] at hb0
    have HI2 : Hid (Ip (wb.alloc (.cells zjs 85)) P R (P + 1) a star ex rv ∧ w.grownBy (wb.alloc (.cells zjs 85)) none ∧ P + 1 < R ∧ w.heap.size = P ∧ R < O) := Lib.hid ⟨HI1.out.1.gb (gb_alloc (gb_refl _ none) _) (by simp) (by simp) (by simp), gb_alloc HI1.out.2.1 _, HI1.out.2.2.1, HI1.out.2.2.2.1, by rw [← hO]; exact HI1.out.2.2.2.2⟩
    clear HI1 hO
    generalize wb.alloc (.cells zjs 85) = wd at HI2 hb0 ⊢
    have hlO := hb0.lt
    have f1 := hb0.free 59
    obtain ⟨v1, k1⟩ := hb0.has (i := 59) (by simp [zjs_size])
    have h1 := hb0.set 59 (.bool lazy)
    have f2 := h1.free 43
    obtain ⟨v2, k2⟩ := h1.has (i := 43) (by simp [zjs_size])
    have h2 := h1.set 43 (.int .i32 kl)
    have f3 := h2.free 60
    obtain ⟨v3, k3⟩ := h2.has (i := 60) (by simp [zjs_size])
    have h3 := h2.set 60 (.bool ur)
    have f4 := h3.free 61
    obtain ⟨v4, k4⟩ := h3.has (i := 61) (by simp [zjs_size])
    have h4 := h3.set 61 (.bool um)
    have f5 := h4.free 62
    obtain ⟨v5, k5⟩ := h4.has (i := 62) (by simp [zjs_size])
    have h5 := h4.set 62 (.int .u8 kd)
    have f6 := h5.free 48
    obtain ⟨v6, k6⟩ := h5.has (i := 48) (by simp [zjs_size])
    have h6 := h5.set 48 (.int .u32 1)
    have f7 := h6.free (48 + 1)
    obtain ⟨v7, k7⟩ := h6.has (i := 48 + 1) (by simp [zjs_size])
    have h7 := h6.set (48 + 1) (.int .u32 1073741824)
    have H7 := Lib.hid h7
    clear h1 h2 h3 h4 h5 h6 h7 hb0
    go_upto_region 15 with fail
    clear f1 f2 f3 f4 f5 f6 f7 k1 k2 k3 k4 k5 k6 k7 v1 v2 v3 v4 v5 v6 v7
    have HG7 : Hid (wd.grownBy (((((((wd.setCell ⟨O, 59, none⟩ (.bool lazy)).setCell ⟨O, 43, none⟩ (.int .i32 kl)).setCell ⟨O, 60, none⟩ (.bool ur)).setCell ⟨O, 61, none⟩ (.bool um)).setCell ⟨O, 62, none⟩ (.int .u8 kd)).setCell ⟨O, 48, none⟩ (.int .u32 1)).setCell ⟨O, 49, none⟩ (.int .u32 1073741824)) (some O)) := Lib.hid (gb_set (gb_set (gb_set (gb_set (gb_set (gb_set (gb_set (gb_refl _ _) _ _ _) _ _ _) _ _ _) _ _ _) _ _ _) _ _ _) _ _ _)
    generalize (((((((wd.setCell ⟨O, 59, none⟩ (.bool lazy)).setCell ⟨O, 43, none⟩ (.int .i32 kl)).setCell ⟨O, 60, none⟩ (.bool ur)).setCell ⟨O, 61, none⟩ (.bool um)).setCell ⟨O, 62, none⟩ (.int .u8 kd)).setCell ⟨O, 48, none⟩ (.int .u32 1)).setCell ⟨O, 49, none⟩ (.int .u32 1073741824)) = we at H7 HG7 ⊢
    obtain ⟨M2, hM2⟩ : ∃ M2, we.heap.size = M2 := ⟨_, rfl⟩
    have hmk := mm45 we
    have hb0 := H7.out.alloc (.map #[] 0)
    have f1 := hb0.free 2
    obtain ⟨v1, k1⟩ := hb0.has (i := 2) (by simp [zjs_size])
    have h1 := hb0.set 2 (.map (some M2))
    have HI3 : Hid (Ip ((we.alloc (.map #[] 0)).setCell ⟨O, 2, none⟩ (.map (some M2))) P R (P + 1) a star ex rv ∧ w.grownBy ((we.alloc (.map #[] 0)).setCell ⟨O, 2, none⟩ (.map (some M2))) none ∧ Blk ((we.alloc (.map #[] 0)).setCell ⟨O, 2, none⟩ (.map (some M2))) O 85 (oC M2 lazy kl ur um kd) ∧ Rx ((we.alloc (.map #[] 0)).setCell ⟨O, 2, none⟩ (.map (some M2))) M2 (M2 + 1) 0 ts ∧ ((we.alloc (.map #[] 0)).setCell ⟨O, 2, none⟩ (.map (some M2))).heap.size = M2 + 1 ∧ P + 1 < R ∧ w.heap.size = P ∧ R < O ∧ O < M2) := Lib.hid (by
      obtain ⟨hI, hg, hPR, hwP, hRO⟩ := HI2.out
      have hg1 : wd.grownBy ((we.alloc (.map #[] 0)).setCell ⟨O, 2, none⟩ (.map (some M2))) (some O) := gb_set (gb_alloc HG7.out _) _ _ _
      have hOM : O < M2 := by rw [← hM2]; exact H7.out.lt
      refine ⟨hI.gb hg1 (by simp; omega) (by simp; omega) (by simp; omega), gb_new (gb_trans (gb_none hg) hg1) (by omega), h1, ⟨⟨_, ?_, Lms.nil _ _⟩, fun j hj => by omega⟩, by simp [World.setCell, hM2], hPR, hwP, hRO, hOM⟩
      have := blk_new we (.map #[] 0)
      rw [hM2] at this
      exact Mv.fresh (blk_set_ne this (by omega) _ _ _))
    have hlO1 := hb0.lt
    clear h1 hb0 H7 HG7 HI2
    go_upto_region 16 with fail
    clear hmk f1 k1 hlO hlO1
    try rw [hM2]
    clear hM2
    generalize (we.alloc (.map #[] 0)).setCell ⟨O, 2, none⟩ (.map (some M2)) = wf at HI3 ⊢
    go_wp2_with fail
    go_loopg [28] n (fun k x wx => ∃ i : Nat, x = .int .i64 (i : Int) ∧ i ≤ n ∧ n - i ≤ k ∧ Hid (wf.grownBy wx (some M2) ∧ Rx wx M2 (M2 + 1) i ts ∧ wx.heap.size = M2 + 1 + 2 * i))
    case atStart => exact ⟨0, rfl, by omega, by omega, Lib.hid ⟨gb_refl _ _, HI3.out.2.2.2.1, by simpa using HI3.out.2.2.2.2.1⟩⟩
    case round =>
      obtain ⟨i, rfl, hi, hk, HB⟩ := hrel
      obtain ⟨wz, rfl⟩ : ∃ wz : World, wz = wr := ⟨_, rfl⟩
      rcases (show i = n ∨ i < n by omega) with he | hlt
      · subst he
        go_upto_region 23 with fail
        go_upto_if 132 with fail
        have HZ : Hid (Ip wz P R (P + 1) a star ex rv ∧ Blk wz O 85 (oC M2 lazy kl ur um kd) ∧ Rx wz M2 (M2 + 1) i ts ∧ w.grownBy wz none ∧ P + 1 < R ∧ R < O ∧ O < M2 ∧ M2 < wz.heap.size ∧ w.heap.size ≤ O) := Lib.hid (by
          obtain ⟨q1, q2, q3, q4, q5, q6, q7, q8, q9⟩ := HI3.out
          have hg := HB.out.1
          have hs := HB.out.2.2
          exact ⟨q1.gb hg (by simp; omega) (by simp; omega) (by simp; omega), q3.gb hg (by simp; omega), HB.out.2.1, gb_new (gb_trans (gb_none q2) hg) (by omega), q6, q8, q9, by omega, by omega⟩)
        clear HB HI3 hk
        go_cut [] (fun wc => Hid (Ip wc P R (P + 1) a star ex rv ∧ w.grownBy wc none ∧ ∃ so, so.isSome = hs ∧ Op wc O M2 i ts so lazy kl ur um kd))
        case first =>
          cases hs
          · go_wp2_with fail
            go_meet
            exact Lib.hid ⟨HZ.out.1, HZ.out.2.2.2.1, none, rfl, ⟨⟨_, HZ.out.2.1, of_o _ _ _ _ _ _⟩, HZ.out.2.2.1, fun S e => by cases e⟩⟩
          · obtain ⟨S, hS⟩ : ∃ S, wz.heap.size = S := ⟨_, rfl⟩
            have hb3 := (HZ.out.2.1.alloc (.cells (stC (S + 1)) 103)).alloc (.cells im2 40)
            have f3 := hb3.free 3
            have k3 := (hb3.cell 3).trans (of_o M2 lazy kl ur um kd).c3
            have l3 := hb3.lt
            have H3 := Lib.hid (hb3.set 3 (.pointer (some ⟨S, 0, none⟩)))
            clear hb3
            simp only [stC, im2] at f3 k3 l3
            go_wp2_with fail
            go_meet
            have e1 := (Blk.new wz 103 (stC (S + 1))).alloc (.cells im2 40)
            have e2 := Blk.new (wz.alloc (.cells (stC (S + 1)) 103)) 40 im2
            rw [show (wz.alloc (.cells (stC (S + 1)) 103)).heap.size = wz.heap.size + 1 by simp, hS] at e2
            rw [hS] at e1
            obtain ⟨q1, q2, q3, q4, q5, q6, q7, q8, q9⟩ := HZ.out
            have g : wz.grownBy (((wz.alloc (.cells (stC (S + 1)) 103)).alloc (.cells im2 40)).setCell ⟨O, 3, none⟩ (.pointer (some ⟨S, 0, none⟩))) (some O) := gb_set (gb_alloc (gb_alloc (gb_refl _ _) _) _) _ _ _
            have gs : ((wz.alloc (.cells (stC (S + 1)) 103)).alloc (.cells im2 40)).grownBy (((wz.alloc (.cells (stC (S + 1)) 103)).alloc (.cells im2 40)).setCell ⟨O, 3, none⟩ (.pointer (some ⟨S, 0, none⟩))) (some O) := gb_set (gb_refl _ _) _ _ _
            refine Lib.hid ⟨q1.gb g (by simp; omega) (by simp; omega) (by simp; omega), gb_new (gb_trans (gb_none q4) g) q9, some S, rfl, ⟨⟨_, H3.out, of_star _ _ _ _ _ _ _⟩, q3.gb g (by simp; omega) (fun b e j hj => by have := Option.some.inj e; omega), fun S' e => ?_⟩⟩
            cases e
            exact ⟨S + 1, e1.gb gs (by simp; omega), e2.gb gs (by simp; omega)⟩
        case rest =>
          obtain ⟨wg, rfl⟩ : ∃ wg : World, wg = wc := ⟨_, rfl⟩
          have HD := hcut
          clear hcut HZ
          go_upto_if 145 with fail
          go_cut [31] (fun x wd => x = .int .u8 (ldI tx) ∧ wg = wd)
          case first =>
            cases tx
            · go_wp2_with fail
              go_meet
              exact ⟨rfl, rfl⟩
            · go_wp2_with fail
              go_meet
              exact ⟨rfl, rfl⟩
          case rest =>
            obtain ⟨rfl, rfl⟩ := hcut
            go_wp2_with (first | (refine wpList_slice rfl 25 2 _ rfl [(0, .agg (lfC P (ldI tx))), (1, .agg (lfC O 10))] rfl (lf2 P O (ldI tx)) 125 (bs25 P O (ldI tx)) ?_) | (go_at_call 11; refine (jf_any _ _ _).mono ?_; rintro e w4 ⟨rfl, hg4⟩; have HG4 := Lib.hid hg4; clear hg4))
            rename_i wj HGj
            go_ret
            obtain ⟨hI, hg, so, hso, hO⟩ := HD.out
            have g1 := gb_trans HGj.out HG4.out
            have g2 : wg.grownBy (w4.alloc (.cells (lf2 P O (ldI tx)) 125)) none := gb_alloc g1 _
            exact ⟨_, P, R, P + 1, O, M2, so, rfl, hso, Blk.new _ _ _, hI.grow g2, hO.grow g2, gb_trans hg g2⟩
      · obtain ⟨E, hE⟩ : ∃ E, wz.heap.size = E := ⟨_, rfl⟩
        have w1 := u32_small i (by omega)
        have w2 : IntKind.u32.wrap ((i : Int) + 5) = (i : Int) + 5 := u32_small (i + 5) (by omega)
        have w3 : IntKind.u32.wrap ((i : Int) + 7) = (i : Int) + 7 := u32_small (i + 7) (by omega)
        have w4 : IntKind.i32.wrap (i : Int) = (i : Int) := by rw [IntKind.wrap_i32]; omega
        have w5 : IntKind.i32.wrap ((i : Int) + 1) = (i : Int) + 1 := by rw [IntKind.wrap_i32]; omega
        go_upto_region 22 with fail
        clear w1 w2 w3 w4 w5
        have HEE : Hid (E = M2 + 1 + 2 * i) := Lib.hid (by rw [← hE]; exact HB.out.2.2)
        obtain ⟨wq, hwq⟩ : ∃ wq, ((wz.alloc (Obj.cells #[Value.slice (some { block := E + 1, off := 0 }) 1 1, Value.int IntKind.u32 1, Value.int IntKind.u32 (i : Int), Value.int IntKind.i32 ((i : Int) + 1), Value.int IntKind.u32 ((i : Int) + 5)] 103)).alloc (Obj.cells #[Value.slice none 0 0, Value.int IntKind.i32 0, Value.int IntKind.u32 0, Value.int IntKind.u32 0, Value.int IntKind.u32 ((i : Int) + 7)] 40)) = wq := ⟨_, rfl⟩
        have HQ : Hid (wz.grownBy wq none ∧ Blk wq E 103 (edC (E + 1) (i : Int)) ∧ Blk wq (E + 1) 40 (imC ((i : Int) + 7)) ∧ wq.heap.size = E + 2) := Lib.hid (by
          rw [← hwq]
          have e1 := (Blk.new wz 103 (edC (E + 1) (i : Int))).alloc (.cells (imC ((i : Int) + 7)) 40)
          have e2 := Blk.new (wz.alloc (.cells (edC (E + 1) (i : Int)) 103)) 40 (imC ((i : Int) + 7))
          rw [show (wz.alloc (.cells (edC (E + 1) (i : Int)) 103)).heap.size = wz.heap.size + 1 by simp, hE] at e2
          rw [hE] at e1
          exact ⟨gb_alloc (gb_alloc (gb_refl _ _) _) _, e1, e2, by simp [hE]⟩)
        rw [hwq]
        clear hwq hE
        obtain ⟨b9, o9, rfl, lt9, c9⟩ := (HI.out.1.kept ⟨HI3.out.2.1.os, HI3.out.2.1.tape, HI3.out.2.1.output, HI3.out.2.1.size, fun k hk => HI3.out.2.1.block k hk (by simp)⟩).at (i := i) (by omega)
        have hB9 : wq.cell? ⟨b9, o9 + i, none⟩ = some (.string (tth ts i)) := by
          have hl := HI3.out.2.2.2.2.1
          have hb9M : b9 ≠ M2 := fun e => by
            have hh := HI.out.1.at (i := i) (by omega)
            obtain ⟨b, o, q1, q2, _⟩ := hh
            cases q1
            obtain ⟨_, _, _, _, _, r1, r2, r3, r4⟩ := HI3.out
            omega
          exact (World.cell?_of_block (w := wz) (HQ.out.1.block b9 (by have := HB.out.1.size; omega) (by simp))).trans ((World.cell?_of_block (w := wf) (HB.out.1.block b9 lt9 (fun e => hb9M (Option.some.inj e)))).trans c9)
        obtain ⟨t, ht⟩ : ∃ t, tth ts i = t := ⟨_, rfl⟩
        have hts := HI.out.2 i hlt
        rw [ht] at hB9 hts
        have hbO := (HI3.out.2.2.1.gb HB.out.1 (by have := HI3.out.2.2.2.2.2.2.2.2; simp; omega)).gb HQ.out.1 (by simp)
        have cO : wq.drew.cell? ⟨O, 2, none⟩ = some (.map (some M2)) := (hbO.cell 2).trans (of_o M2 lazy kl ur um kd).c2
        have hlO := hbO.lt
        have s0 : wq.drew.cell? ⟨E, 0, none⟩ = some (.slice (some ⟨E + 1, 0, none⟩) 1 1) := HQ.out.2.1.cell 0
        have s1 : wq.drew.cell? ⟨E, 1, none⟩ = some (.int .u32 1) := HQ.out.2.1.cell 1
        have s2 : wq.drew.cell? ⟨E, 2, none⟩ = some (.int .u32 (i : Int)) := HQ.out.2.1.cell 2
        have s3 : wq.drew.cell? ⟨E, 3, none⟩ = some (.int .i32 ((i : Int) + 1)) := HQ.out.2.1.cell 3
        have s4 : wq.drew.cell? ⟨E, 4, none⟩ = some (.int .u32 ((i : Int) + 5)) := HQ.out.2.1.cell 4
        have c9' : wq.drew.cell? ⟨b9, o9 + i, none⟩ = some (.string t) := hB9
        obtain ⟨D, hm, hlm⟩ := HB.out.2.1.m
        have hmq : Mv Tryd.prog 9 wq.drew M2 i D := World.ownsMap.drew (World.ownsMap.kept hm HQ.out.1 (by simp))
        obtain ⟨w6, hup, hm6, hg6, hz6⟩ := Mv.putS hmq (string_keyed Tryd.underlying9) Tryd.underlying45 (by unfold maxLen; omega) (val := .agg (edC (E + 1) (i : Int))) (keyOf_ks Tryd.underlying9 t hts)
        have HN : Hid (wf.grownBy w6 (some M2) ∧ Rx w6 M2 (M2 + 1) (i + 1) ts ∧ w6.heap.size = M2 + 1 + 2 * (i + 1)) := Lib.hid (by
          have hEE := HEE.out
          have hg : wz.grownBy w6 (some M2) := gb_trans (gb_none HQ.out.1) ⟨hg6.os, hg6.tape, hg6.output, hg6.size, hg6.block⟩
          refine ⟨gb_trans HB.out.1 hg, ⟨⟨_, hm6, ?_⟩, fun j hj => ?_⟩, ?_⟩
          · have := Lms.put (P := Tryd.prog) (string_keyed Tryd.underlying9) (fun a ha => keyOf_ks Tryd.underlying9 a ha) hlm ht hts
            rwa [show ed (M2 + 1) i = .agg (edC (E + 1) (i : Int)) by rw [hEE]; rfl] at this
          · rcases (show j < i ∨ j = i by omega) with h | rfl
            · exact (HB.out.2.1.amb j h).gb hg (fun e => by have := Option.some.inj e; omega)
            · have e := HQ.out.2.2.1.gb (w' := w6) (row := some M2) ⟨hg6.os, hg6.tape, hg6.output, hg6.size, hg6.block⟩ (fun e => by have := Option.some.inj e; omega)
              rw [hEE] at e
              exact e
          · rw [hz6, show wq.drew.heap.size = wq.heap.size from rfl, HQ.out.2.2.2, hEE]; omega)
        simp only [edC] at hup
        clear hm hlm hmq hm6 hg6 hz6 hB9 hts hbO ht c9
        go_region
        go_wp2_with fail
        go_roundg (gk - 1)
        case measure => omega
        case rel => exact ⟨i + 1, by go_num, by omega, by omega, HN⟩
end Go.Proofs.YtgollalliomhfaaDoor
