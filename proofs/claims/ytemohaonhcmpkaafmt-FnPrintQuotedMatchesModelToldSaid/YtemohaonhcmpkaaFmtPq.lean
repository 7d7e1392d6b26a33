/-
  printQuotedWithQuote, walked. No statement of the seat is proved here.
-/
import Derived.Test.YtemohaonhcmpkaaFmtPe
import Derived.Test.YtemohaonhcmpkaaFmtEg
import Derived.Test.YtemohaonhcmpkaaFmtFp
import Derived.StillTailTactics
namespace Go.Proofs.YtemohaonhcmpkaaFmt
open Go.RowKit
set_option linter.unusedVariables false
set_option linter.unusedSimpArgs false

theorem step_push_str {P : Program} {ops : Array Oper} {o : Oper} {a : Act} {w : World} {K : Act → World → Prop} {Q : Exit → Act → World → Prop} {E : Prop} (hgd : o.guard = none) (sl x : Operand) (t u : TypeId)
    (ho : o.op = .call { callee := .builtin .append, args := #[sl, x], argTypes := #[t, u] }) (B : Nat) (e : TypeId) (ht : P.underlying t = some (.slice e)) (hu : P.underlying u = some .string)
    (hinfo : (P.info? e).map (fun i => (i.zero, i.size, i.bytes)) = some (some (.int .u8 0), 1, 1)) (v : Value) (zs : List Int) (hs : a.eval sl = v) (hown : Own .u8 e w B v zs) (s : ByteArray) (hx : a.eval x = .string s)
    (hl : zs.length + s.size ≤ 140737488355328) (hB : B ≤ w.heap.size)
    (h : ∀ v' w', Own .u8 e w' B v' (zs ++ byt s) → Gr w v w' v' → K (a.put o.dst v') w') : if Region.wanted o (yielded ops a.tmps) = true then Oper.wp P o a w K Q else E := by
  have hw : Region.wanted o (yielded ops a.tmps) = true := by simp [Region.wanted, hgd]
  rw [if_pos hw]
  obtain ⟨v', w', hr, h2, h3⟩ := run_append_string_at (P := P) w B t u o.type e ht hu hinfo v zs hown s hl hB
  unfold Oper.wp
  simp only [execOp, ho, resolve, invoke, builtin, Sem.run_bind, Sem.run_pure, Result.andThen_ok, List.map_toArray, List.map_cons, List.map_nil, hs, hx, hr]
  exact h v' w' h2 h3
/-- behind an append to the buffer, stored back -/
theorem pr_app {w w1 : World} {B p : Nat} {l : Int} {m a : Bool} {zs ys : List Int} {s e : Int} {ao ao' : Option Addr} {c c' n : Nat} (hb : Blk w p 59 (prCells l m a (.slice ao zs.length c) s e)) (hown : Own .u8 5 w B (.slice ao zs.length c) zs) (hne : (Value.slice ao zs.length c).ownBlock ≠ some p) (hBp : B ≤ p) (hB : B ≤ w.heap.size)
    (ho : Own .u8 5 w1 B (.slice ao' ys.length c') ys) (hg : Gr w (.slice ao zs.length c) w1 (.slice ao' ys.length c')) (hn : n = ys.length) :
    Pr (w1.setCell ⟨p, 15, none⟩ (.slice ao' n c')) B p l m a ys s e ∧ Below B w (w1.setCell ⟨p, 15, none⟩ (.slice ao' n c')) := by
  subst hn
  have hne' := gr_ne hg hne hb.lt
  refine ⟨⟨ao', c', ?_, ho.gb (gb_set (gb_refl _ _) 15 none _) (.inr hne'), hne', hBp⟩, (hg.below (Below.refl _ _) hB (fun g h => (hown.lt g h).1)).setCell hBp _⟩
  have := (hb.gb hg.1 (fun h => hne h.symm)).set 15 (.slice ao' ys.length c')
  rw [set15] at this
  exact this
set_option maxRecDepth 100000 in
theorem has0 (w : World) : Calls Tryf.prog 18 #[.int .u16 0, .int .u16 64] w fun e w' => e = .returned (.bool false) ∧ w' = w := by
  have h : bits .and .u16 (0 : Int) (64 : Int) = 0 := by kernel_rfl
  go_enter Tryf.func18, Tryf.ntmps18
  go_wp2
  go_ret
  exact ⟨rfl, rfl⟩
theorem low_ext (t : ByteArray) (i k : Nat) (h : k ≤ t.size) (hk : i + 5 = k) : lowsty (t.extract i k) 0 5 = lowsty t i 5 := by
  have e : ∀ j, j < 5 → byteAt (t.extract i k) j = byteAt t (i + j) := by
    intro j hj
    have hz : (t.extract i k).size = k - i := by simp; omega
    rw [← byteAt_get _ j (by omega), ← byteAt_get t (i + j) (by omega), ByteArray.getElem_extract]
  rw [lowsty5, e 0 (by omega), e 1 (by omega), e 2 (by omega), e 3 (by omega), e 4 (by omega)]
  unfold lowsty
  simp [List.range, List.range.loop, sty, Bool.and_assoc]
def styB : ByteArray := ⟨#[115, 116, 121, 108, 101]⟩
theorem styB_tl : Tl styB 0 := ⟨rfl, fun k hk => by
  have : k < 5 := hk
  rcases (show k = 0 ∨ k = 1 ∨ k = 2 ∨ k = 3 ∨ k = 4 by omega) with rfl | rfl | rfl | rfl | rfl <;> rfl⟩
theorem enc_ascii (b : Nat) (hb : b < 128) : Lib.encodeRuneZ (b : Int) = [(b : Int)] := Lib.encodeRuneZ_one (by omega) (by omega)
/-- ahead of the rune at i: the buffer, the run -/
structure Lq (w0 wx : World) (B p : Nat) (zs : List Int) (t : ByteArray) (q rs i : Nat) : Prop where
  pr : Pr wx B p 0 false false (zs ++ body t q rs) 0 0
  rn : Rn t q rs i
  bel : Below B w0 wx
theorem Lq.below {w0 wx wy : World} {B p : Nat} {zs : List Int} {t : ByteArray} {q rs i : Nat} (h : Lq w0 wx B p zs t q rs i) (hb : Below wx.heap.size wx wy) (hB : B ≤ wx.heap.size) : Lq w0 wy B p zs t q rs i :=
  ⟨h.pr.below hb, h.rn, h.bel.trans (hb.mono hB)⟩
def PqE (B p : Nat) (zs : List Int) (t : ByteArray) (q : Nat) (w : World) (e : Ending) (w' : World) : Prop := e = .returned (.tuple #[]) ∧ Pr w' B p 0 false false (zs ++ [(q : Int)] ++ body t q t.size ++ [(q : Int)]) 0 0 ∧ Below B w w'
set_option maxHeartbeats 0 in
set_option maxRecDepth 100000 in
theorem pq_any (B p : Nat) (zs : List Int) (t : ByteArray) (q : Nat) (hq : q = 34 ∨ q = 39) (fl : Int) (w : World) (hp : PrF w B p zs) (hB : B ≤ w.heap.size) (hl : zs.length ≤ 1048576) (ht : t.size ≤ 1048576) (hn : NHx t)
    {R o cap : Nat} (hF : Fold w R o cap) (hR : R < B) (h3 : 3 < B) (hT : Lib.Utf8Tabs 0 1 w) :
    Calls Tryf.prog 14 #[.pointer (some ⟨p, 0, none⟩), .string t, .int .u8 (q : Int), .int .u8 fl] w (PqE B p zs t q w) := by
  obtain ⟨ao, hb, hin, hnone, hBp⟩ := hp
  have c15 := (hb.cell 15).trans (pr15 _ _ _ _ _ _ _ _)
  have hlt := hb.lt
  have HQ := Lib.hid hq
  have hq0 : ((q : Int) == 0) = false := by simp; omega
  have hq1 : decide ((q : Int) = 0) = false := by simp; omega
  have hqw : IntKind.i32.wrap (q : Int) = (q : Int) := by rw [IntKind.wrap_i32]; omega
  have HP := Lib.hid (And.intro hb (And.intro hin (And.intro hnone hBp)))
  have HT := Lib.hid (And.intro hF (And.intro hR (And.intro h3 (And.intro hT hn))))
  clear hb hin hnone hF hR h3 hT hn hq
  have hq2 : ¬ (q : Int) = 0 := by have := HQ.out; omega
  go_enter Tryf.func14, Tryf.ntmps14
  go_upto_region 2 with (at_builtin; refine wpList_push_full w rfl (.tmp 22) (.tmp 24) 22 rfl B 5 .u8 1 Tryf.underlying22 u8_info ao zs (q : Int) rfl HP.out.2.1 HP.out.2.2.1 rfl (by unfold maxLen; omega) (by omega) hB ?_; intro v' w1 ho1 hg1 hn1; obtain ⟨ao', cap', rfl, hin', hc', hf'⟩ := ho1.form; have hb1 := HP.out.1.gb hg1 (fun h => by cases h); have c15' := (hb1.cell 15).trans (pr15 _ _ _ _ _ _ _ _); have f15' := hb1.free 15; have hlt' := hb1.lt; have HO := Lib.hid (And.intro ho1 (And.intro hg1 hn1)); clear hb1 ho1 hg1 hn1 hin' hc' hf')
  obtain ⟨z0, hz0⟩ : ∃ z0, zs ++ [(q : Int)] = z0 := ⟨_, rfl⟩
  have H2 : Hid (Pr (w1.setCell ⟨p, 15, none⟩ (.slice ao' (zs.length + 1) cap')) B p 0 false false z0 0 0 ∧ Below B w (w1.setCell ⟨p, 15, none⟩ (.slice ao' (zs.length + 1) cap'))) := Lib.hid (by
    have h := pr_first (n := zs.length + 1) HP.out.1 HP.out.2.2.2 hB HO.out.1 HO.out.2.1 HO.out.2.2 (by simp)
    rw [hz0] at h
    exact h)
  have HZ0 : Hid (zs ++ [(q : Int)] = z0 ∧ z0.length ≤ 1048577) := Lib.hid ⟨hz0, by rw [← hz0]; simp; omega⟩
  clear hz0 c15 c15' f15' hlt hlt' HO
  generalize w1.setCell ⟨p, 15, none⟩ (.slice ao' (zs.length + 1) cap') = w2 at H2 ⊢
  obtain ⟨ao2, c2, hb2, _, _, _⟩ := H2.out.1
  have c3 := (hb2.cell 3).trans (pr3 _ _ _ _ _ _ _ _)
  have lp := hb2.lt
  clear hb2
  obtain ⟨n, hnz⟩ : ∃ n, t.size = n := ⟨_, rfl⟩
  have HNZ := Lib.hid hnz
  rw [hnz] at ht
  go_wp2_with fail
  clear c3 lp
  go_loopg [9, 10] n (fun g x y wx => ∃ (i rs : Nat), x = .int .i64 (i : Int) ∧ y = .int .i64 (rs : Int) ∧ i ≤ n ∧ rs ≤ i ∧ n - i ≤ g ∧ Hid (Lq w wx B p z0 t q rs i))
  case atStart => exact ⟨0, 0, rfl, rfl, by omega, by omega, by omega, Lib.hid ⟨by simpa [body] using H2.out.1, Rn.start .., H2.out.2⟩⟩
  case round =>
    obtain ⟨i, rs, rfl, rfl, hi, hrs, hg, HL⟩ := hrel
    obtain ⟨wz, rfl⟩ : ∃ wz : World, wz = wr := ⟨_, rfl⟩
    rcases (show n = i ∨ i < n by omega) with he | hlt
    · have hnz2 := he
      obtain rfl := he
      have hBz : B ≤ wz.heap.size := Nat.le_trans hB HL.out.bel.size
      clear hnz2
      by_cases hri : rs < n
      · obtain ⟨ao5, k5, hb5, ho5, hne5, hBp5⟩ := HL.out.pr
        obtain ⟨zr, hzr⟩ : ∃ zr, z0 ++ body t q rs = zr := ⟨_, rfl⟩
        rw [hzr] at hb5 ho5 hne5
        have c15 := (hb5.drew.cell 15).trans (pr15 _ _ _ _ _ _ _ _)
        have lp5 := hb5.drew.lt
        have HX := Lib.hid (And.intro hb5.drew (And.intro ho5.drew (And.intro hne5 hBp5)))
        have HZR : Hid (z0 ++ body t q rs = zr ∧ zr.length + (t.extract rs n).size ≤ 140737488355328) := Lib.hid ⟨hzr, by
          have h1 := body_len t q rs
          have h2 := HZ0.out.2
          rw [← hzr, List.length_append]
          have h3 : (t.extract rs n).size ≤ n := by simp; have := HNZ.out; omega
          omega⟩
        have HRN := Lib.hid HL.out.rn
        have hbx15 : (byt (t.extract rs n)).length = n - rs := by rw [byt_length]; simp; have := HNZ.out; omega
        have HBX15 := Lib.hid hbx15
        have htn : t.size = n := HNZ.out
        clear hb5 ho5 hne5 hzr
        go_upto_region 50 with fail
        go_region_law (refine step_push_str rfl (.tmp 218) (.tmp 221) 22 9 rfl B 5 Tryf.underlying22 Tryf.underlying9 u8_info (.slice ao5 zr.length k5) zr (by simp [Act.eval, Act.put]) HX.out.2.1 (t.extract rs n) (by simp [Act.eval, Act.put]) HZR.out.2 hBz ?_; intro v' w6 ho6 hg6; obtain ⟨ao6, k6, rfl, hin', hc', hf'⟩ := ho6.form; have hb6 := HX.out.1.gb hg6.1 (fun h => HX.out.2.2.1 h.symm); have c15' := (hb6.cell 15).trans (pr15 _ _ _ _ _ _ _ _); have f15' := hb6.free 15; have hlt' := hb6.lt; have HO := Lib.hid (And.intro ho6 hg6); clear hb6 ho6 hg6 hin' hc' hf')
        have HP7 : Hid (Pr (w6.setCell ⟨p, 15, none⟩ (.slice ao6 (zr.length + (n - rs)) k6)) B p 0 false false (z0 ++ body t q n) 0 0 ∧ Below B wz (w6.setCell ⟨p, 15, none⟩ (.slice ao6 (zr.length + (n - rs)) k6))) := Lib.hid (by
          have h := pr_app (n := zr.length + (n - rs)) HX.out.1 HX.out.2.1 HX.out.2.2.1 HX.out.2.2.2 hBz HO.out.1 HO.out.2 (by rw [List.length_append, HBX15.out])
          have e : zr ++ byt (t.extract rs n) = z0 ++ body t q n := by
            rw [byt_extract t rs n (by have := HNZ.out; omega), HRN.out.2, ← HZR.out.1, List.append_assoc]
          rw [e] at h
          exact ⟨h.1, ⟨h.2.os, h.2.tape, h.2.output, h.2.size, h.2.block⟩⟩)
        clear c15 lp5 c15' f15' hlt' hbx15
        generalize w6.setCell ⟨p, 15, none⟩ (.slice ao6 (zr.length + (n - rs)) k6) = w7 at HP7 ⊢
        obtain ⟨ao8, k8, hb8, ho8, hne8, hBp8⟩ := HP7.out.1
        obtain ⟨zf, hzf⟩ : ∃ zf, z0 ++ body t q n = zf := ⟨_, rfl⟩
        rw [hzf] at hb8 ho8 hne8
        have c15 := (hb8.cell 15).trans (pr15 _ _ _ _ _ _ _ _)
        have lp8 := hb8.lt
        have HX8 := Lib.hid (And.intro hb8 (And.intro ho8 (And.intro hne8 hBp8)))
        have HZF : Hid (z0 ++ body t q n = zf ∧ zf.length ≤ 8388608) := Lib.hid ⟨hzf, by
          have h1 := body_len t q n
          have h2 := HZ0.out.2
          rw [← hzf, List.length_append]
          omega⟩
        have HBX8 : Hid (Below B w w7) := Lib.hid (HL.out.bel.trans HP7.out.2)
        have hB8 : B ≤ w7.heap.size := Nat.le_trans hB HBX8.out.size
        have hz63 : zf.length + 1 ≤ maxLen := by have := HZF.out.2; unfold maxLen; omega
        have hz64 : (zf.length + 1) * 1 ≤ 140737488355328 := by have := HZF.out.2; omega
        have HPU := Lib.hid (And.intro hz63 (And.intro hz64 hB8))
        clear hb8 ho8 hne8 hzf hz63 hz64 hB8
        as_aux_lemma =>
          go_wp2_with (at_builtin; refine wpList_push w7 rfl (.tmp 231) (.tmp 233) 22 rfl B 5 .u8 1 Tryf.underlying22 u8_info (.slice ao8 zf.length k8) zf (q : Int) rfl HX8.out.2.1 rfl HPU.out.1 HPU.out.2.1 HPU.out.2.2 ?_; intro v' w9 ho9 hg9 _; obtain ⟨ao9, k9, rfl, hin', hc', hf'⟩ := ho9.form; have hb9 := HX8.out.1.gb hg9.1 (fun h => HX8.out.2.2.1 h.symm); have c15' := (hb9.cell 15).trans (pr15 _ _ _ _ _ _ _ _); have f15' := hb9.free 15; have hlt' := hb9.lt; have HO9 := Lib.hid (And.intro ho9 hg9); clear hb9 ho9 hg9 hin' hc' hf')
          have HP9 : Hid (Pr (w9.setCell ⟨p, 15, none⟩ (.slice ao9 (zf.length + 1) k9)) B p 0 false false (zf ++ [(q : Int)]) 0 0 ∧ Below B w7 (w9.setCell ⟨p, 15, none⟩ (.slice ao9 (zf.length + 1) k9))) := Lib.hid (pr_app (n := zf.length + 1) HX8.out.1 HX8.out.2.1 HX8.out.2.2.1 HX8.out.2.2.2 HPU.out.2.2 HO9.out.1 HO9.out.2 (by simp))
          go_end0
          refine ⟨rfl, ?_, HBX8.out.trans HP9.out.2⟩
          have e : zf ++ [(q : Int)] = zs ++ [(q : Int)] ++ body t q n ++ [(q : Int)] := by rw [← HZF.out.1, ← HZ0.out.1]
          rw [HNZ.out, ← e]
          exact HP9.out.1
      · have HPR : Hid (Pr wz B p 0 false false (z0 ++ body t q n) 0 0) := Lib.hid (by
          obtain rfl : rs = n := by omega
          exact HL.out.pr)
        obtain ⟨ao8, k8, hb8, ho8, hne8, hBp8⟩ := HPR.out
        obtain ⟨zf, hzf⟩ : ∃ zf, z0 ++ body t q n = zf := ⟨_, rfl⟩
        rw [hzf] at hb8 ho8 hne8
        have c15 := (hb8.cell 15).trans (pr15 _ _ _ _ _ _ _ _)
        have lp8 := hb8.lt
        have HX8 := Lib.hid (And.intro hb8 (And.intro ho8 (And.intro hne8 hBp8)))
        have HZF : Hid (z0 ++ body t q n = zf ∧ zf.length ≤ 8388608) := Lib.hid ⟨hzf, by
          have h1 := body_len t q n
          have h2 := HZ0.out.2
          rw [← hzf, List.length_append]
          omega⟩
        have HBX8 : Hid (Below B w wz) := Lib.hid HL.out.bel
        have hB8 : B ≤ wz.heap.size := Nat.le_trans hB HBX8.out.size
        have hz63 : zf.length + 1 ≤ maxLen := by have := HZF.out.2; unfold maxLen; omega
        have hz64 : (zf.length + 1) * 1 ≤ 140737488355328 := by have := HZF.out.2; omega
        have HPU := Lib.hid (And.intro hz63 (And.intro hz64 hB8))
        clear hb8 ho8 hne8 hzf hz63 hz64 hB8
        as_aux_lemma =>
          go_wp2_with (at_builtin; refine wpList_push wz rfl (.tmp 231) (.tmp 233) 22 rfl B 5 .u8 1 Tryf.underlying22 u8_info (.slice ao8 zf.length k8) zf (q : Int) rfl HX8.out.2.1 rfl HPU.out.1 HPU.out.2.1 HPU.out.2.2 ?_; intro v' w9 ho9 hg9 _; obtain ⟨ao9, k9, rfl, hin', hc', hf'⟩ := ho9.form; have hb9 := HX8.out.1.gb hg9.1 (fun h => HX8.out.2.2.1 h.symm); have c15' := (hb9.cell 15).trans (pr15 _ _ _ _ _ _ _ _); have f15' := hb9.free 15; have hlt' := hb9.lt; have HO9 := Lib.hid (And.intro ho9 hg9); clear hb9 ho9 hg9 hin' hc' hf')
          have HP9 : Hid (Pr (w9.setCell ⟨p, 15, none⟩ (.slice ao9 (zf.length + 1) k9)) B p 0 false false (zf ++ [(q : Int)]) 0 0 ∧ Below B wz (w9.setCell ⟨p, 15, none⟩ (.slice ao9 (zf.length + 1) k9))) := Lib.hid (pr_app (n := zf.length + 1) HX8.out.1 HX8.out.2.1 HX8.out.2.2.1 HX8.out.2.2.2 HPU.out.2.2 HO9.out.1 HO9.out.2 (by simp))
          go_end0
          refine ⟨rfl, ?_, HBX8.out.trans HP9.out.2⟩
          have e : zf ++ [(q : Int)] = zs ++ [(q : Int)] ++ body t q n ++ [(q : Int)] := by rw [← HZF.out.1, ← HZ0.out.1]
          rw [HNZ.out, ← e]
          exact HP9.out.1
    · have hBz : B ≤ wz.heap.size := Nat.le_trans hB HL.out.bel.size
      have HDR := Lib.hid (Tryf.utf8_DecodeRuneInString (t.extract i t.size) wz (tabs_below HT.out.2.2.2.1 HL.out.bel (by have := HT.out.2.2.1; omega) (by have := HT.out.2.2.1; omega)))
      rw [dg_go, hnz] at HDR
      go_upto_region 20 with (go_at_call 17; refine HDR.out.mono ?_; rintro e w3 ⟨rfl, hb3⟩; have H3 := Lib.hid hb3; clear hb3)
      have HL3 : Hid (Lq w w3 B p z0 t q rs i) := Lib.hid (HL.out.below H3.out hBz)
      have hB3 : B ≤ w3.heap.size := Nat.le_trans hBz H3.out.size
      obtain ⟨ao3, c3', hb3, ho3, hne3, _⟩ := HL3.out.pr
      have c5 := (hb3.cell 5).trans (pr5 _ _ _ _ _ _ _ _)
      have c7 := (hb3.cell 7).trans (pr7 _ _ _ _ _ _ _ _)
      have lp := hb3.lt
      have HB3 := Lib.hid (And.intro hb3 (And.intro ho3 hne3))
      clear hb3 ho3 hne3 HDR
      have hnh := HT.out.2.2.2.2 i (by rw [HNZ.out]; exact hlt)
      have hfe := feff t i (by rw [HNZ.out]; exact hlt) HT.out.2.2.2.2
      have HW : Hid (1 ≤ (dg t i).2 ∧ i + (dg t i).2 ≤ n) := Lib.hid ⟨dg_pos t i (by rw [HNZ.out]; exact hlt), by have := dg_le t i (by rw [HNZ.out]; omega); rw [HNZ.out] at this; exact this⟩
      obtain ⟨b, hb⟩ : ∃ b, byteAt t i = b := ⟨_, rfl⟩
      rw [hb] at hnh
      have HBY := Lib.hid hb
      have hcls : (128 ≤ b ∧ 128 ≤ (dg t i).1) ∨ (b < 128 ∧ dg t i = (b, 1)) := by
        by_cases h : b < 128
        · exact .inr ⟨h, by rw [← hb]; exact dg_ascii t i (by rw [HNZ.out]; exact hlt) (by rw [hb]; exact h)⟩
        · exact .inl ⟨by omega, (dg_high t i (by rw [HNZ.out]; exact hlt) (by rw [hb]; omega)).1⟩
      -- no escape: what the round leaves
      have HNE : Hid ((128 ≤ b ∨ nd t q i = false) → ∀ wx, Below w3.heap.size w3 wx → Lq w wx B p z0 t q rs (i + (dg t i).2)) := Lib.hid (fun h wx hbx => by
        have hl := HL3.out.below hbx hB3
        refine ⟨hl.pr, hl.rn.many _ (fun j h1 h2 => ?_), hl.bel⟩
        rcases h with h | h
        · exact nd_high (by have := HQ.out; omega) ((dg_high t i (by rw [HNZ.out]; exact hlt) (by rw [HBY.out]; exact h)).2 j h1 h2)
        · by_cases h3 : 128 ≤ b
          · exact nd_high (by have := HQ.out; omega) ((dg_high t i (by rw [HNZ.out]; exact hlt) (by rw [HBY.out]; exact h3)).2 j h1 h2)
          · have := dg_ascii t i (by rw [HNZ.out]; exact hlt) (by rw [HBY.out]; omega)
            rw [this] at h2
            obtain rfl : j = i := by omega
            exact h)
      clear hb
      have hN0 : ((dg t i).1 ≠ 0 ∧ (dg t i).1 ≠ 13 ∧ (dg t i).1 ≠ 10 ∧ (dg t i).1 ≠ 12 ∧ (dg t i).1 ≠ 92 ∧ (dg t i).1 ≠ q ∧ (dg t i).1 ≠ 40 ∧ (dg t i).1 ≠ 41 ∧ (dg t i).1 ≠ 32 ∧ (dg t i).1 ≠ 9 ∧ (dg t i).1 ≠ 34 ∧ (dg t i).1 ≠ 39 ∧ (dg t i).1 ≠ 47 ∧ Hid (128 ≤ b ∨ nd t q i = false)) ∨
          (b < 128 ∧ dg t i = (b, 1) ∧ (b = 92 ∨ b = q ∨ b = 47 ∨ (b ≠ q ∧ (b = 40 ∨ b = 41 ∨ b = 32 ∨ b = 9 ∨ b = 34 ∨ b = 39)))) := by
        have hqq := HQ.out
        rcases hcls with ⟨h1, h2⟩ | ⟨h1, h2⟩
        · exact .inl ⟨by omega, by omega, by omega, by omega, by omega, by omega, by omega, by omega, by omega, by omega, by omega, by omega, by omega, Lib.hid (.inl h1)⟩
        · by_cases h3 : b = 92 ∨ b = q ∨ b = 47 ∨ (b ≠ q ∧ (b = 40 ∨ b = 41 ∨ b = 32 ∨ b = 9 ∨ b = 34 ∨ b = 39))
          · exact .inr ⟨h1, h2, h3⟩
          · rw [h2]
            refine .inl ⟨by omega, by omega, by omega, by omega, by omega, by omega, by omega, by omega, by omega, by omega, by omega, by omega, by omega, Lib.hid (.inr ?_)⟩
            unfold nd
            rw [HBY.out]
            have e1 : (b == 92) = false := by simp; omega
            have e2 : (b == q) = false := by simp; omega
            have e3 : (b == 47) = false := by simp; omega
            rw [e1, e2, e3]; rfl
      clear hcls
      rcases hN0 with hN0 | ⟨hb128, hdg, hN1⟩
      · obtain ⟨n1, n2, n3, n4, n5, n6, n7, n8, n9, n10, n11, n12, n13, HND⟩ := hN0
        have HNX := Lib.hid (HNE.out HND.out)
        have hW := HW.out
        clear hnh HNE
        generalize (dg t i).1 = c at *
        generalize (dg t i).2 = W at *
        have g1 : ((c : Int) == 0) = false := by simp; omega
        have g2 : ((c : Int) == 13) = false := by simp; omega
        have g3 : ((c : Int) == 10) = false := by simp; omega
        have g4 : ((c : Int) == 12) = false := by simp; omega
        have g5 : ((c : Int) == 92) = false := by simp; omega
        have g6 : ((c : Int) == (q : Int)) = false := by simp; omega
        have g7 : ((c : Int) == 40) = false := by simp; omega
        have g8 : ((c : Int) == 41) = false := by simp; omega
        have g9 : ((c : Int) == 32) = false := by simp; omega
        have g10 : ((c : Int) == 9) = false := by simp; omega
        have g11 : ((c : Int) == 34) = false := by simp; omega
        have g12 : ((c : Int) == 39) = false := by simp; omega
        have g13 : ((c : Int) == 47) = false := by simp; omega
        have g14 : ((c : Int) == 65279) = false := by simp; omega
        clear n1 n2 n3 n4 n5 n6 n7 n8 n9 n10 n11 n12 n13 hfe
        as_aux_lemma =>
          go_wp2_with fail
          go_roundg (gk - 1)
          case measure => omega
          case rel => exact ⟨i + W, rs, by go_num, rfl, by omega, by omega, by omega, Lib.hid (HNX.out _ (Below.refl _ _))⟩
      · have hd1 : (dg t i).1 = b := by rw [hdg]
        have hd2 : (dg t i).2 = 1 := by rw [hdg]
        rw [hd2] at HNE HW
        rw [hd1] at hfe ⊢
        rw [hd2]
        clear hd1 hd2 hdg hfe
        have hqq := HQ.out
        obtain ⟨m0, m13, m10, m12, _⟩ := hnh
        have g1 : ((b : Int) == 0) = false := by simp; omega
        have g2 : ((b : Int) == 13) = false := by simp; omega
        have g3 : ((b : Int) == 10) = false := by simp; omega
        have g4 : ((b : Int) == 12) = false := by simp; omega
        clear m0 m13 m10 m12
        have hsix : ¬ (b ≠ q ∧ (b = 40 ∨ b = 41 ∨ b = 32 ∨ b = 9 ∨ b = 34 ∨ b = 39)) ∨ (b ≠ q ∧ (b = 40 ∨ b = 41 ∨ b = 32 ∨ b = 9 ∨ b = 34 ∨ b = 39)) := by omega
        rcases hsix with hsix | ⟨hbq, hsix⟩
        · have HCL : Hid (b = 92 ∨ b = q ∨ b = 47) := Lib.hid (by omega)
          clear hN1 hsix hqq
          have HESC : Hid (nd t q i = true → b < 128 → ∀ wx wy, Below B w3 wx → Below B wx wy → Pr wy B p 0 false false ((z0 ++ body t q i ++ [92]) ++ Lib.encodeRuneZ (b : Int)) 0 0 → Lq w wy B p z0 t q (i + 1) (i + 1)) := Lib.hid (fun h1 h2 wx wy h3 h4 h5 => by
            refine ⟨?_, Rn.start .., (HL3.out.bel.trans h3).trans h4⟩
            rw [body_esc h1]
            rw [enc_ascii b h2] at h5
            have e : bz t i = (b : Int) := by unfold bz; rw [HBY.out]
            rw [e]
            simpa using h5)
          have HW1 := HW.out
          have HBB := Lib.hid hb128
          have HEND : Hid (∀ (wx : World) (ys : List Int), Below B w3 wx → nd t q i = true → ¬ hexd (b : Int) → Pr wx B p 0 false false (z0 ++ body t q i) 0 0 → B ≤ wx.heap.size → ∀ (r : ByteArray), Calls Tryf.prog 20 #[.pointer (some ⟨p, 0, none⟩), .int .i32 (b : Int), .int .u8 1, .string r, .bool false] wx fun en w' => en = .returned (.tuple #[]) ∧ Lq w w' B p z0 t q (i + 1) (i + 1)) := Lib.hid (fun wx ys h1 h2 h3 h4 h5 r => by
            refine (pwe_bs B p 0 false false (z0 ++ body t q i) 0 0 (b : Int) r false wx h4 (by omega) (by omega) h3 ?_ h5).mono ?_
            · have := body_len t q i
              have := HZ0.out.2
              rw [List.length_append]
              omega
            · rintro e w' ⟨rfl, k1, k2, _⟩
              exact ⟨rfl, HESC.out h2 HBB.out wx w' h1 k2 k1⟩)
          rcases HCL.out with rfl | hbq | rfl
          · have hnd : nd t q i = true := by unfold nd; rw [HBY.out]; rfl
            have HND := Lib.hid hnd
            have HHX : Hid (¬ hexd ((92 : Nat) : Int)) := Lib.hid (by unfold hexd; omega)
            have g5 : ((92 : Int) == (q : Int)) = false := by have := HQ.out; simp; omega
            clear hnd
            go_upto_region 44 with fail
            have HLx : Hid (Lq w w3 B p z0 t q rs i) := Lib.hid (HL3.out.below (Below.refl _ _) hB3)
            have HBW : Hid (Below w3.heap.size w3 w3) := Lib.hid (Below.refl _ _)
            have hBx : B ≤ w3.heap.size := Nat.le_trans hB3 HBW.out.size
            by_cases hri : rs < i
            · obtain ⟨ao5, k5, hb5, ho5, hne5, hBp5⟩ := HLx.out.pr
              obtain ⟨zr, hzr⟩ : ∃ zr, z0 ++ body t q rs = zr := ⟨_, rfl⟩
              rw [hzr] at hb5 ho5 hne5
              have c15 := (hb5.drew.cell 15).trans (pr15 _ _ _ _ _ _ _ _)
              have lp5 := hb5.drew.lt
              have HX := Lib.hid (And.intro hb5.drew (And.intro ho5.drew (And.intro hne5 hBp5)))
              have HZR : Hid (z0 ++ body t q rs = zr ∧ zr.length + (t.extract rs i).size ≤ 140737488355328) := Lib.hid ⟨hzr, by
                have h1 := body_len t q rs
                have h2 := HZ0.out.2
                rw [← hzr, List.length_append]
                have h3 : (t.extract rs i).size ≤ n := by simp; have := HNZ.out; omega
                omega⟩
              have HRN := Lib.hid HLx.out.rn
              have hbx15 : (byt (t.extract rs i)).length = i - rs := by rw [byt_length]; simp; have := HNZ.out; omega
              have HBX15 := Lib.hid hbx15
              clear hb5 ho5 hne5 hzr
              go_upto_region 45 with fail
              go_region_law (refine step_push_str rfl (.tmp 190) (.tmp 194) 22 9 rfl B 5 Tryf.underlying22 Tryf.underlying9 u8_info (.slice ao5 zr.length k5) zr (by simp [Act.eval, Act.put]) HX.out.2.1 (t.extract rs i) (by simp [Act.eval, Act.put]) HZR.out.2 hBx ?_; intro v' w6 ho6 hg6; obtain ⟨ao6, k6, rfl, hin', hc', hf'⟩ := ho6.form; have hb6 := HX.out.1.gb hg6.1 (fun h => HX.out.2.2.1 h.symm); have c15' := (hb6.cell 15).trans (pr15 _ _ _ _ _ _ _ _); have f15' := hb6.free 15; have hlt' := hb6.lt; have HO := Lib.hid (And.intro ho6 hg6); clear hb6 ho6 hg6 hin' hc' hf')
              have HP7 : Hid (Pr (w6.setCell ⟨p, 15, none⟩ (.slice ao6 (zr.length + (i - rs)) k6)) B p 0 false false (z0 ++ body t q i) 0 0 ∧ Below B w3 (w6.setCell ⟨p, 15, none⟩ (.slice ao6 (zr.length + (i - rs)) k6))) := Lib.hid (by
                have h := pr_app (n := zr.length + (i - rs)) HX.out.1 HX.out.2.1 HX.out.2.2.1 HX.out.2.2.2 hBx HO.out.1 HO.out.2 (by rw [List.length_append, HBX15.out])
                have e : zr ++ byt (t.extract rs i) = z0 ++ body t q i := by
                  rw [byt_extract t rs i (by have := HNZ.out; omega), HRN.out.2, ← HZR.out.1, List.append_assoc]
                rw [e] at h
                exact ⟨h.1, ⟨h.2.os, h.2.tape, h.2.output, h.2.size, h.2.block⟩⟩)
              clear c15 lp5 c15' f15' hlt' hbx15
              generalize w6.setCell ⟨p, 15, none⟩ (.slice ao6 (zr.length + (i - rs)) k6) = w7 at HP7 ⊢
              as_aux_lemma =>
                go_wp2_with (go_at_call 20; refine (HEND.out w7 [] ((HBW.out.mono hB3).trans HP7.out.2) HND.out HHX.out HP7.out.1 (Nat.le_trans hBx HP7.out.2.size) _).mono ?_; rintro e8 w8 ⟨rfl, hl8⟩; have H8 := Lib.hid hl8; clear hl8)
                go_roundg (gk - 1)
                case measure => omega
                case rel => exact ⟨i + 1, i + 1, by go_num, by go_num, by omega, by omega, by omega, H8⟩
            · have HPR : Hid (Pr w3 B p 0 false false (z0 ++ body t q i) 0 0) := Lib.hid (by
                obtain rfl : rs = i := by omega
                exact HLx.out.pr)
              as_aux_lemma =>
                go_wp2_with (go_at_call 20; refine (HEND.out w3 [] (HBW.out.mono hB3) HND.out HHX.out HPR.out hBx _).mono ?_; rintro e8 w8 ⟨rfl, hl8⟩; have H8 := Lib.hid hl8; clear hl8)
                go_roundg (gk - 1)
                case measure => omega
                case rel => exact ⟨i + 1, i + 1, by go_num, by go_num, by omega, by omega, by omega, H8⟩
          · have hnd : nd t q i = true := by unfold nd; rw [HBY.out, hbq]; simp
            have HND := Lib.hid hnd
            have HHX : Hid (¬ hexd (b : Int)) := Lib.hid (by have := HQ.out; unfold hexd; omega)
            have g5 : ((b : Int) == 92) = false := by have := HQ.out; simp; omega
            have g6 : ((b : Int) == (q : Int)) = true := by simp [hbq]
            clear hnd hbq
            go_upto_region 44 with fail
            clear g1 g2 g3 g4 g5 g6
            have HLx : Hid (Lq w w3 B p z0 t q rs i) := Lib.hid (HL3.out.below (Below.refl _ _) hB3)
            have HBW : Hid (Below w3.heap.size w3 w3) := Lib.hid (Below.refl _ _)
            have hBx : B ≤ w3.heap.size := Nat.le_trans hB3 HBW.out.size
            by_cases hri : rs < i
            · obtain ⟨ao5, k5, hb5, ho5, hne5, hBp5⟩ := HLx.out.pr
              obtain ⟨zr, hzr⟩ : ∃ zr, z0 ++ body t q rs = zr := ⟨_, rfl⟩
              rw [hzr] at hb5 ho5 hne5
              have c15 := (hb5.drew.cell 15).trans (pr15 _ _ _ _ _ _ _ _)
              have lp5 := hb5.drew.lt
              have HX := Lib.hid (And.intro hb5.drew (And.intro ho5.drew (And.intro hne5 hBp5)))
              have HZR : Hid (z0 ++ body t q rs = zr ∧ zr.length + (t.extract rs i).size ≤ 140737488355328) := Lib.hid ⟨hzr, by
                have h1 := body_len t q rs
                have h2 := HZ0.out.2
                rw [← hzr, List.length_append]
                have h3 : (t.extract rs i).size ≤ n := by simp; have := HNZ.out; omega
                omega⟩
              have HRN := Lib.hid HLx.out.rn
              have hbx15 : (byt (t.extract rs i)).length = i - rs := by rw [byt_length]; simp; have := HNZ.out; omega
              have HBX15 := Lib.hid hbx15
              clear hb5 ho5 hne5 hzr
              go_upto_region 45 with fail
              go_region_law (refine step_push_str rfl (.tmp 190) (.tmp 194) 22 9 rfl B 5 Tryf.underlying22 Tryf.underlying9 u8_info (.slice ao5 zr.length k5) zr (by simp [Act.eval, Act.put]) HX.out.2.1 (t.extract rs i) (by simp [Act.eval, Act.put]) HZR.out.2 hBx ?_; intro v' w6 ho6 hg6; obtain ⟨ao6, k6, rfl, hin', hc', hf'⟩ := ho6.form; have hb6 := HX.out.1.gb hg6.1 (fun h => HX.out.2.2.1 h.symm); have c15' := (hb6.cell 15).trans (pr15 _ _ _ _ _ _ _ _); have f15' := hb6.free 15; have hlt' := hb6.lt; have HO := Lib.hid (And.intro ho6 hg6); clear hb6 ho6 hg6 hin' hc' hf')
              have HP7 : Hid (Pr (w6.setCell ⟨p, 15, none⟩ (.slice ao6 (zr.length + (i - rs)) k6)) B p 0 false false (z0 ++ body t q i) 0 0 ∧ Below B w3 (w6.setCell ⟨p, 15, none⟩ (.slice ao6 (zr.length + (i - rs)) k6))) := Lib.hid (by
                have h := pr_app (n := zr.length + (i - rs)) HX.out.1 HX.out.2.1 HX.out.2.2.1 HX.out.2.2.2 hBx HO.out.1 HO.out.2 (by rw [List.length_append, HBX15.out])
                have e : zr ++ byt (t.extract rs i) = z0 ++ body t q i := by
                  rw [byt_extract t rs i (by have := HNZ.out; omega), HRN.out.2, ← HZR.out.1, List.append_assoc]
                rw [e] at h
                exact ⟨h.1, ⟨h.2.os, h.2.tape, h.2.output, h.2.size, h.2.block⟩⟩)
              clear c15 lp5 c15' f15' hlt' hbx15
              generalize w6.setCell ⟨p, 15, none⟩ (.slice ao6 (zr.length + (i - rs)) k6) = w7 at HP7 ⊢
              as_aux_lemma =>
                go_wp2_with (go_at_call 20; refine (HEND.out w7 [] ((HBW.out.mono hB3).trans HP7.out.2) HND.out HHX.out HP7.out.1 (Nat.le_trans hBx HP7.out.2.size) _).mono ?_; rintro e8 w8 ⟨rfl, hl8⟩; have H8 := Lib.hid hl8; clear hl8)
                go_roundg (gk - 1)
                case measure => omega
                case rel => exact ⟨i + 1, i + 1, by go_num, by go_num, by omega, by omega, by omega, H8⟩
            · have HPR : Hid (Pr w3 B p 0 false false (z0 ++ body t q i) 0 0) := Lib.hid (by
                obtain rfl : rs = i := by omega
                exact HLx.out.pr)
              as_aux_lemma =>
                go_wp2_with (go_at_call 20; refine (HEND.out w3 [] (HBW.out.mono hB3) HND.out HHX.out HPR.out hBx _).mono ?_; rintro e8 w8 ⟨rfl, hl8⟩; have H8 := Lib.hid hl8; clear hl8)
                go_roundg (gk - 1)
                case measure => omega
                case rel => exact ⟨i + 1, i + 1, by go_num, by go_num, by omega, by omega, by omega, H8⟩
          · have g5 : ((47 : Int) == (q : Int)) = false := by have := HQ.out; simp; omega
            have hnd47 : nd t q i = opn t i := by
              unfold nd
              rw [HBY.out]
              have e1 : ((47 : Nat) == q) = false := by have := HQ.out; simp; omega
              rw [e1]; rfl
            rcases (show i = 0 ∨ 1 ≤ i by omega) with hi0 | hi1
            · have hop : opn t i = false := by unfold opn; rw [hi0]; rfl
              have e1 : decide ((1 : Int) ≤ (i : Int)) = false := by simp; omega
              have e2 : decide (1 ≤ i) = false := by simp; omega
              have HNX := Lib.hid (HNE.out (.inr (by rw [hnd47, hop])))
              clear hop hnd47
              as_aux_lemma =>
                go_wp2_with (go_at_call 18; refine (has0 _).mono ?_; rintro e8 w8 ⟨rfl, h8⟩; obtain rfl := h8.symm)
                go_roundg (gk - 1)
                case measure => omega
                case rel => exact ⟨i + 1, rs, by go_num, rfl, by omega, by omega, by omega, Lib.hid (HNX.out _ (Below.refl _ _))⟩
            · obtain ⟨k1, hk1⟩ : ∃ k1, i = k1 + 1 := ⟨i - 1, by omega⟩
              have hik : (i : Int) - 1 = (k1 : Int) := by omega
              have e1 : decide ((1 : Int) ≤ (i : Int)) = true := by simp; omega
              have e2 : decide (1 ≤ i) = true := by simp; omega
              have hkt : k1 < t.size := by rw [HNZ.out]; omega
              have hx := byteAt_get t k1 hkt
              have hop1 : opn t i = ((byteAt t k1 == 60) && decide (i + 6 ≤ t.size) && lowsty t (i + 1) 5) := by
                unfold opn
                rw [e2, show i - 1 = k1 by omega]; simp
              obtain ⟨y, hy⟩ : ∃ y, byteAt t k1 = y := ⟨_, rfl⟩
              rw [hy] at hx hop1
              have HK1 := Lib.hid hk1
              clear hk1
              by_cases hy60 : y = 60
              · subst hy60
                by_cases h6 : i + 6 ≤ n
                · obtain ⟨k2, hk2⟩ : ∃ k2, (i : Int) + 1 = ((k2 : Nat) : Int) := ⟨i + 1, by omega⟩
                  obtain ⟨k6, hk6⟩ : ∃ k6, (i : Int) + 6 = ((k6 : Nat) : Int) := ⟨i + 6, by omega⟩
                  have e3 : decide ((k6 : Int) ≤ (n : Int)) = true := by simp; omega
                  have e4 : decide (k6 ≤ n) = true := by simp; omega
                  have hkn : k6 ≤ n := by omega
                  have hkk : k2 ≤ k6 := by omega
                  have htn : t.size = n := HNZ.out
                  have HEF := Lib.hid (ef_any (t.extract k2 k6) styB (by simp; omega) styB_tl w3 (HT.out.1.below HL3.out.bel HT.out.2.2.1 HT.out.2.1) (by have := HT.out.2.1; omega) (by have := HT.out.2.2.1; omega))
                  unfold EgE at HEF
                  rw [low_ext t k2 k6 (by omega) (by omega)] at HEF
                  obtain ⟨ls, hls⟩ : ∃ ls, lowsty t k2 5 = ls := ⟨_, rfl⟩
                  rw [show i + 1 = k2 by omega, hls] at hop1
                  rw [hls] at HEF
                  have hop : opn t i = ls := by rw [hop1, show decide (i + 6 ≤ t.size) = true by rw [HNZ.out]; simp; omega]; simp
                  clear hop1 h6 hy hls
                  have hnds : nd t q i = ls := by rw [hnd47, hop]
                  have HNDS := Lib.hid hnds
                  clear hop hnd47 hnds
                  cases ls
                  · have HNX := Lib.hid (HNE.out (.inr HNDS.out))
                    as_aux_lemma =>
                      go_wp2_with (first | (go_at_call 18; refine (has0 _).mono ?_; rintro e8 w8 ⟨rfl, h8⟩; obtain rfl := h8.symm) | (go_at_call 19; refine HEF.out.mono ?_; rintro e8 w4 ⟨rfl, hg4⟩; have HB4 := Lib.hid (below_of0 hg4); clear hg4))
                      go_roundg (gk - 1)
                      case measure => omega
                      case rel => exact ⟨i + 1, rs, by go_num, rfl, by omega, by omega, by omega, Lib.hid (HNX.out _ HB4.out)⟩
                  · have HND : Hid (nd t q i = true) := HNDS
                    have HHX : Hid (¬ hexd ((47 : Nat) : Int)) := Lib.hid (by unfold hexd; omega)
                    go_upto_region 44 with (first | (go_at_call 18; refine (has0 _).mono ?_; rintro e8 w8 ⟨rfl, h8⟩; obtain rfl := h8.symm) | (go_at_call 19; refine HEF.out.mono ?_; rintro e8 w4 ⟨rfl, hg4⟩; have HB4 := Lib.hid (below_of0 hg4); clear hg4))
                    clear g1 g2 g3 g4 g5 e1 e2 e3 e4 hik hkt hx hkn hkk htn hk2 hk6
                    have HLx : Hid (Lq w w4 B p z0 t q rs i) := Lib.hid (HL3.out.below HB4.out hB3)
                    have HBW : Hid (Below w3.heap.size w3 w4) := Lib.hid HB4.out
                    have hBx : B ≤ w4.heap.size := Nat.le_trans hB3 HBW.out.size
                    by_cases hri : rs < i
                    · obtain ⟨ao5, k5, hb5, ho5, hne5, hBp5⟩ := HLx.out.pr
                      obtain ⟨zr, hzr⟩ : ∃ zr, z0 ++ body t q rs = zr := ⟨_, rfl⟩
                      rw [hzr] at hb5 ho5 hne5
                      have c15 := (hb5.drew.cell 15).trans (pr15 _ _ _ _ _ _ _ _)
                      have lp5 := hb5.drew.lt
                      have HX := Lib.hid (And.intro hb5.drew (And.intro ho5.drew (And.intro hne5 hBp5)))
                      have HZR : Hid (z0 ++ body t q rs = zr ∧ zr.length + (t.extract rs i).size ≤ 140737488355328) := Lib.hid ⟨hzr, by
                        have h1 := body_len t q rs
                        have h2 := HZ0.out.2
                        rw [← hzr, List.length_append]
                        have h3 : (t.extract rs i).size ≤ n := by simp; have := HNZ.out; omega
                        omega⟩
                      have HRN := Lib.hid HLx.out.rn
                      have hbx15 : (byt (t.extract rs i)).length = i - rs := by rw [byt_length]; simp; have := HNZ.out; omega
                      have HBX15 := Lib.hid hbx15
                      clear hb5 ho5 hne5 hzr
                      go_upto_region 45 with fail
                      go_region_law (refine step_push_str rfl (.tmp 190) (.tmp 194) 22 9 rfl B 5 Tryf.underlying22 Tryf.underlying9 u8_info (.slice ao5 zr.length k5) zr (by simp [Act.eval, Act.put]) HX.out.2.1 (t.extract rs i) (by simp [Act.eval, Act.put]) HZR.out.2 hBx ?_; intro v' w6 ho6 hg6; obtain ⟨ao6, k6, rfl, hin', hc', hf'⟩ := ho6.form; have hb6 := HX.out.1.gb hg6.1 (fun h => HX.out.2.2.1 h.symm); have c15' := (hb6.cell 15).trans (pr15 _ _ _ _ _ _ _ _); have f15' := hb6.free 15; have hlt' := hb6.lt; have HO := Lib.hid (And.intro ho6 hg6); clear hb6 ho6 hg6 hin' hc' hf')
                      have HP7 : Hid (Pr (w6.setCell ⟨p, 15, none⟩ (.slice ao6 (zr.length + (i - rs)) k6)) B p 0 false false (z0 ++ body t q i) 0 0 ∧ Below B w4 (w6.setCell ⟨p, 15, none⟩ (.slice ao6 (zr.length + (i - rs)) k6))) := Lib.hid (by
                        have h := pr_app (n := zr.length + (i - rs)) HX.out.1 HX.out.2.1 HX.out.2.2.1 HX.out.2.2.2 hBx HO.out.1 HO.out.2 (by rw [List.length_append, HBX15.out])
                        have e : zr ++ byt (t.extract rs i) = z0 ++ body t q i := by
                          rw [byt_extract t rs i (by have := HNZ.out; omega), HRN.out.2, ← HZR.out.1, List.append_assoc]
                        rw [e] at h
                        exact ⟨h.1, ⟨h.2.os, h.2.tape, h.2.output, h.2.size, h.2.block⟩⟩)
                      clear c15 lp5 c15' f15' hlt' hbx15
                      generalize w6.setCell ⟨p, 15, none⟩ (.slice ao6 (zr.length + (i - rs)) k6) = w7 at HP7 ⊢
                      as_aux_lemma =>
                        go_wp2_with (go_at_call 20; refine (HEND.out w7 [] ((HBW.out.mono hB3).trans HP7.out.2) HND.out HHX.out HP7.out.1 (Nat.le_trans hBx HP7.out.2.size) _).mono ?_; rintro e8 w8 ⟨rfl, hl8⟩; have H8 := Lib.hid hl8; clear hl8)
                        go_roundg (gk - 1)
                        case measure => omega
                        case rel => exact ⟨i + 1, i + 1, by go_num, by go_num, by omega, by omega, by omega, H8⟩
                    · have HPR : Hid (Pr w4 B p 0 false false (z0 ++ body t q i) 0 0) := Lib.hid (by
                        obtain rfl : rs = i := by omega
                        exact HLx.out.pr)
                      as_aux_lemma =>
                        go_wp2_with (go_at_call 20; refine (HEND.out w4 [] (HBW.out.mono hB3) HND.out HHX.out HPR.out hBx _).mono ?_; rintro e8 w8 ⟨rfl, hl8⟩; have H8 := Lib.hid hl8; clear hl8)
                        go_roundg (gk - 1)
                        case measure => omega
                        case rel => exact ⟨i + 1, i + 1, by go_num, by go_num, by omega, by omega, by omega, H8⟩
                · have hop : opn t i = false := by rw [hop1, show decide (i + 6 ≤ t.size) = false by rw [HNZ.out]; simp; omega]; rfl
                  have e3 : decide ((i : Int) + 6 ≤ (n : Int)) = false := by simp; omega
                  have e4 : decide (i + 6 ≤ n) = false := by simp; omega
                  clear hop1 h6 hy
                  have HNX := Lib.hid (HNE.out (.inr (by rw [hnd47, hop])))
                  clear hop hnd47
                  as_aux_lemma =>
                    go_wp2_with (go_at_call 18; refine (has0 _).mono ?_; rintro e8 w8 ⟨rfl, h8⟩; obtain rfl := h8.symm)
                    go_roundg (gk - 1)
                    case measure => omega
                    case rel => exact ⟨i + 1, rs, by go_num, rfl, by omega, by omega, by omega, Lib.hid (HNX.out _ (Below.refl _ _))⟩
              · have hop : opn t i = false := by rw [hop1, show (y == 60) = false by simp [hy60]]; rfl
                have e3 : ((y : Int) == 60) = false := by simp; omega
                clear hop1 hy hy60
                have HNX := Lib.hid (HNE.out (.inr (by rw [hnd47, hop])))
                clear hop hnd47
                as_aux_lemma =>
                  go_wp2_with (go_at_call 18; refine (has0 _).mono ?_; rintro e8 w8 ⟨rfl, h8⟩; obtain rfl := h8.symm)
                  go_roundg (gk - 1)
                  case measure => omega
                  case rel => exact ⟨i + 1, rs, by go_num, rfl, by omega, by omega, by omega, Lib.hid (HNX.out _ (Below.refl _ _))⟩
        · have hnd : nd t q i = false := by
            unfold nd
            rw [HBY.out]
            have e1 : (b == 92) = false := by simp; omega
            have e2 : (b == q) = false := by simp; omega
            have e3 : (b == 47) = false := by simp; omega
            rw [e1, e2, e3]; rfl
          have HNX := Lib.hid (HNE.out (.inr hnd))
          have e6 : ((b : Int) == (q : Int)) = false := by simp; omega
          have hW := HW.out
          clear hN1 hbq hnd hqq
          rcases hsix with rfl | rfl | rfl | rfl | rfl | rfl
          all_goals
            as_aux_lemma =>
              go_wp2_with fail
              go_roundg (gk - 1)
              case measure => omega
              case rel => exact ⟨i + 1, rs, by go_num, rfl, by omega, by omega, by omega, Lib.hid (HNX.out _ (Below.refl _ _))⟩
end Go.Proofs.YtemohaonhcmpkaaFmt
