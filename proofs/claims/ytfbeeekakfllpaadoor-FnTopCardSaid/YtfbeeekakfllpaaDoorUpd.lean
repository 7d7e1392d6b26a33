/-
  The walk of (*ChunkBuilder).updateGeneratedLineAndColumn. No statement of the seat is proved here.
-/
import Derived.Test.YtfbeeekakfllpaaDoorAmw
import Derived.Test.YtfbeeekakfllpaaDoorIter
import Derived.StillTailTactics
import Derived.Lib.SlBytesRow
namespace Go.Proofs.YtfbeeekakfllpaaDoor
open Go.RowKit
set_option linter.unusedVariables false
/-- the builder c0 in the plain state q, its text in sm -/
def up (c0 : Cb) (sm : Value) (q : Pq) : Cb := { c0 with sm := sm, p := ⟨q.gl, q.gc, 0, q.ol, q.oc, q.on, q.hn⟩, gcol := q.gcol, hp := q.hp, ls := q.ls }
/-- at a rune start of the printed text T, which lies in block o from u on; r the iterator's block -/
structure Uw (c0 : Cb) (T : ByteArray) (o u r : Nat) (w0 : World) (v0 : Value) (g : Nat) (q : Pq) (i : Nat) (sm : Value) (wr : World) : Prop where
  it : It wr r T i
  rw : Rw w0 v0 wr g (up c0 sm q).cells sm (txt false q.toks)
  out : Lib.Bytes wr o u T
  ol : o < wr.heap.size
  og : o ≠ g
  rg : r ≠ g
  so : sm.ownBlock ≠ some o
  sr : sm.ownBlock ≠ some r
  ro : r ≠ o
theorem Bytes.fr {w w' : World} {g : Nat} {v v' : Value} {o u : Nat} {T : ByteArray} (h : Lib.Bytes w o u T) (f : Fr w g v w' v') (hl : o < w.heap.size) (h1 : o ≠ g) (h2 : v.ownBlock ≠ some o) : Lib.Bytes w' o u T := fun i hi =>
  (World.cell?_of_block (w := w) (f.block o hl h1 h2)).trans (h i hi)
/-- a step that turns block g, the text's block and new blocks alone -/
theorem Uw.fr {c0 : Cb} {T : ByteArray} {o u r : Nat} {w0 : World} {v0 : Value} {g : Nat} {q q' : Pq} {i : Nat} {sm sm' : Value} {wr w' : World} (h : Uw c0 T o u r w0 v0 g q i sm wr) (f : Fr wr g sm w' sm') (hrw : Rw w0 v0 w' g (up c0 sm' q').cells sm' (txt false q'.toks)) :
    Uw c0 T o u r w0 v0 g q' i sm' w' := by
  refine ⟨(f.block r h.it.lt h.rg h.sr).trans h.it, hrw, Bytes.fr h.out f h.ol h.og h.so, Nat.lt_of_lt_of_le h.ol f.size, h.og, h.rg, ?_, ?_, h.ro⟩
  · rcases f.nw with e | ⟨x, e, hx⟩
    · rw [e]; exact h.so
    · rw [e]; intro c; cases c; have := h.ol; omega
  · rcases f.nw with e | ⟨x, e, hx⟩
    · rw [e]; exact h.sr
    · rw [e]; intro c; cases c; have := h.it.lt; omega
/-- the iterator steps on -/
theorem Uw.next {c0 : Cb} {T : ByteArray} {o u r : Nat} {w0 : World} {v0 : Value} {g : Nat} {q : Pq} {i i' : Nat} {sm : Value} {wr w2 : World} (h : Uw c0 T o u r w0 v0 g q i sm wr) (hit : It w2 r T i') (hg : wr.grownBy w2 (some r)) (hr : w0.heap.size = r) (hgr : g < r) : Uw c0 T o u r w0 v0 g q i' sm w2 := by
  have hs : sm.ownBlock = none ∨ sm.ownBlock ≠ some r := .inr h.sr
  have hl := h.rw.blk.lt
  refine ⟨hit, ⟨h.rw.blk.gb hg (fun e => by cases e; omega), h.rw.own.gb hg hs, h.rw.tab.below (below_gb (Below.refl _ _) hg (by omega) (by omega)), ?_⟩, fun j hj => ?_, Nat.lt_of_lt_of_le h.ol hg.size, h.og, h.rg, h.so, h.sr, h.ro⟩
  · exact ⟨hg.os.trans h.rw.fr.os, hg.tape.trans h.rw.fr.tape, hg.output.trans h.rw.fr.output, Nat.le_trans h.rw.fr.size hg.size, fun k hk h1 h2 => (hg.block k (Nat.lt_of_lt_of_le hk h.rw.fr.size) (fun e => by cases e; omega)).trans (h.rw.fr.block k hk h1 h2), h.rw.fr.nw⟩
  · exact (World.cell?_of_block (w := wr) (hg.block o h.ol (fun e => by cases e; exact h.ro rfl))).trans (h.out j hj)
theorem Uw.drew {c0 : Cb} {T : ByteArray} {o u r : Nat} {w0 : World} {v0 : Value} {g : Nat} {q : Pq} {i : Nat} {sm : Value} {wr : World} (h : Uw c0 T o u r w0 v0 g q i sm wr) : Uw c0 T o u r w0 v0 g q i sm wr.drew :=
  ⟨h.it, ⟨h.rw.blk, h.rw.own, h.rw.tab, h.rw.fr.trans (Fr.drewN _ 1)⟩, h.out.drewN 1, h.ol, h.og, h.rg, h.so, h.sr, h.ro⟩
def BoP (b : Bool) (w : World) (x : Value) (wc : World) : Prop := x = .bool b ∧ wc = w
def GX (c0 : Cb) (T : ByteArray) (o u r : Nat) (w0 : World) (v0 : Value) (g : Nat) (q : Pq) (i : Nat) (wx : World) : Prop := ∃ sm, Uw c0 T o u r w0 v0 g q i sm wx
theorem up_after (c0 : Cb) (sm v' : Value) (q : Pq) (xs : List Int) (gc ol oc : Int) : (up c0 sm q).after v' xs ⟨q.gl, gc, 0, ol, oc, 0, false⟩ = up c0 v' (q.app gc ol oc none) := (after0 _ v' xs _ rfl).trans rfl
theorem ds_up (c0 : Cb) (sm : Value) (q : Pq) (gc ol oc : Int) : St.ds (up c0 sm q).p ⟨q.gl, gc, 0, ol, oc, 0, false⟩ = q.ds gc ol oc none := by simp [St.ds, Pq.ds, up]
theorem Uw.app {c0 : Cb} {T : ByteArray} {o u r : Nat} {w0 : World} {v0 : Value} {g : Nat} {q : Pq} {i : Nat} {sm v' : Value} {wr w4 : World} {gc ol oc : Int} (h : Uw c0 T o u r w0 v0 g q i sm wr) (hw : Wk q.toks)
    (hc : Cbd w4 g ((up c0 sm q).after v' (txt false q.toks) ⟨q.gl, gc, 0, ol, oc, 0, false⟩) (txt false q.toks ++ (cm (lastOf (txt false q.toks)) ++ encs (St.ds (up c0 sm q).p ⟨q.gl, gc, 0, ol, oc, 0, false⟩)))) (hf : Fr wr g sm w4 v') :
    GX c0 T o u r w0 v0 g (q.app gc ol oc none) i w4 := by
  rw [up_after, ds_up] at hc
  refine ⟨v', h.fr hf ⟨hc.blk, ?_, hc.tab, h.rw.fr.trans hf⟩⟩
  have := hc.own
  rw [← txt_seg _ hw] at this
  exact this
theorem Rw.push {w0 : World} {v0 : Value} {w w' : World} {g : Nat} {cs : Array Value} {v v' : Value} {xs ys : List Int} (h : Rw w0 v0 w g cs v xs) (ho : Own .u8 5 w' (g + 1) v' ys) (hg : Gr w v w' v') : Rw w0 v0 w' g cs v' ys := by
  have hl := h.blk.lt
  exact ⟨h.blk.gb hg.1 (fun e => by have := (h.own.lt g e.symm).1; omega), ho, h.tab.below ((Below.refl _ _).grown hg.1 (by omega) (fun x hx => by have := (h.own.lt x hx).1; omega)), h.fr.trans (Fr.of_gr hg)⟩
theorem cells_brk (c0 : Cb) (sm v' : Value) (q : Pq) : ((((((up c0 sm q).cells.setIfInBounds 6 (.int .i64 (q.gl + 1))).setIfInBounds 7 (.int .i64 0)).setIfInBounds 14 (.int .i64 0)).setIfInBounds 1 v').setIfInBounds 20 (.bool false)) = (up c0 v' q.brk).cells := by kernel_rfl
theorem Uw.here {c0 : Cb} {T : ByteArray} {o u r : Nat} {w0 : World} {v0 : Value} {g : Nat} {q q' : Pq} {i : Nat} {sm sm' : Value} {wr w' : World} {cs : Array Value} {ys : List Int} (h : Uw c0 T o u r w0 v0 g q i sm wr) (k : Rw wr sm w' g cs sm' ys) (hc : cs = (up c0 sm' q').cells) (hy : ys = txt false q'.toks) : Uw c0 T o u r w0 v0 g q' i sm' w' := by
  subst hc hy
  exact h.fr k.fr ⟨k.blk, k.own, k.tab, h.rw.fr.trans k.fr⟩
def GU (c0 : Cb) (T : ByteArray) (o u r : Nat) (w0 : World) (v0 : Value) (g : Nat) (q : Pq) (k : Nat) (wr : World) : Prop := ∃ (i : Nat) (sm : Value), Bd T i ∧ T.size - i ≤ k ∧ Uw c0 T o u r w0 v0 g (runQ T q i) i sm wr
def IsUpd (c0 : Cb) (g : Nat) (q : Pq) (m : Int) (w : World) (v0 : Value) (e : Ending) (w' : World) : Prop :=
  ∃ sm, e = .returned (.tuple #[]) ∧ Rw w v0 w' g ({ up c0 sm q with lu := m } : Cb).cells sm (txt false q.toks)
set_option maxRecDepth 100000 in
set_option maxHeartbeats 4000000 in
theorem upd_any (c0 : Cb) (g : Nat) (q : Pq) (sm : Value) (o u cap : Nat) (T : ByteArray) (w : World) (hlu : c0.lu = (u : Nat)) (hcov : c0.cov = true)
    (h : Cbd w g (up c0 sm q) (txt false q.toks)) (ho : Lib.Bytes w o u T) (hol : o < w.heap.size) (hog : o ≠ g) (hso : sm.ownBlock ≠ some o) (hT : 0 < T.size) (hc : u + T.size ≤ cap) (hcz : u + T.size ≤ 4194304)
    (hq0 : 0 ≤ q.gc) (hq1 : q.gc ≤ 16777216) (hq2 : 0 ≤ q.gcol) (hq3 : q.gcol ≤ 16777216) (hq4 : 0 ≤ q.gl) (hq5 : q.gl ≤ 16777216) (hq6 : q.toks.length ≤ 12582912) (hq7 : 0 ≤ q.on ∧ q.on ≤ 16777216) (hok : Qok q) :
    Calls Tryd.prog 27 #[.pointer (some ⟨g, 0, none⟩), .slice (some ⟨o, 0, none⟩) (u + T.size) cap] w (IsUpd c0 g (runQ T q T.size) ((u + T.size : Nat) : Int) w sm) := by
  have hconv := fun (w1 : World) (hb : Lib.Bytes w1 o u T) => Lib.run_convert_whole (P := Tryd.prog) w1 22 5 9 Tryd.underlying22 Tryd.underlying5 Tryd.underlying9 o u T hb (cap - u)
  have hcv := hconv w ho
  obtain ⟨m, hm⟩ : ∃ m, u + T.size = m := ⟨_, rfl⟩
  have hlen : m - u = T.size := by omega
  have e13 := h.blk.cell 13
  simp only [Cb.cells, up] at e13
  rw [hlu] at e13
  rw [hm] at hc hcz ⊢
  have hum : u ≤ m := by omega
  have HH := Lib.hid (And.intro h (And.intro ho (And.intro hso (And.intro hm (And.intro hlu hcov)))))
  obtain ⟨Q, hQ⟩ : ∃ Q, IsUpd c0 g (runQ T q T.size) ((m : Nat) : Int) w sm = Q := ⟨_, rfl⟩
  rw [hQ]
  have HQ := Lib.hid hQ
  clear hQ h ho hso hm hconv hlu hcov
  go_enter Tryd.func27, Tryd.ntmps27
  go_wp2_with fail
  clear hcv e13
  obtain ⟨r, hr⟩ : ∃ r, w.heap.size = r := ⟨_, rfl⟩
  have HR := Lib.hid hr
  rw [hr] at hol ⊢
  clear hr
  go_loopg [] T.size (fun k wr => GU c0 T o u r w sm g q k wr)
  case atStart =>
    have hg0 := HH.out.1.blk.lt
    have hrr := HR.out
    refine ⟨0, sm, Bd.zero T, Nat.le_refl _, ⟨by rw [← hrr]; exact It.new w T, ⟨HH.out.1.blk.alloc _, HH.out.1.own.alloc _, HH.out.1.tab.below ((Below.refl _ _).alloc (Nat.le_of_lt hg0) _), Fr.alloc _ _⟩, ?_, by simp [World.iter]; omega, hog, by omega, HH.out.2.2.1, fun e => ?_, by omega⟩⟩
    · exact fun i hi => cell_al (HH.out.2.1 i hi)
    · have := (HH.out.1.own.lt _ e).2; omega
  case round =>
    obtain ⟨i, sv, hbd, hk, hU⟩ := hrel
    have hiz := hbd.le
    have hbb := runQ_bd T q hq0 hq2 i
    rcases (show i = T.size ∨ i < T.size by omega) with rfl | hlt
    · have HU := Lib.hid hU
      have e13 := hU.rw.blk.cell 13
      have f13 := hU.rw.blk.free 13
      clear hU hbd hbb
      simp only [Cb.cells, up] at e13
      go_upto_region 21 with (refine wpList_next_end rfl _ rfl r T T.size rfl HU.out.it (Nat.lt_irrefl _) ?_)
      go_wp2_with fail
      go_end0
      rw [← HQ.out]
      exact ⟨sv, rfl, HU.out.rw.put 13 (.int .i64 m)⟩
    · have HU := Lib.hid hU
      have HB := Lib.hid (And.intro hbd hbb)
      clear hU hbd hbb
      go_upto_region 3 with (refine wpList_next_at rfl _ rfl r T i rfl HU.out.it hlt ?_; intro w2 hit2 hg2)
      have hcp : (Utf8.decode T i).1 = cpt T i := rfl
      rw [hcp]
      clear hcp
      have hgr : g < r := by have := HH.out.1.blk.lt; have := HR.out; omega
      have hnx : i + (Utf8.decode T i).2 = i + wd T i := rfl
      rw [hnx] at hit2
      have HU2 := Lib.hid (HU.out.next hit2 hg2 HR.out hgr)
      have HNX : Hid (runQ T q (i + wd T i) = stepQ T i (runQ T q i) ∧ Bd T (i + wd T i)) := Lib.hid ⟨runQ_next T q i HB.out.1.at_ hlt, HB.out.1.next hlt⟩
      have hwp := wd_pos T i hlt
      have hwl := wd_le T i hlt
      clear hit2 hg2 hnx
      obtain ⟨qi, hqi⟩ : ∃ qi, runQ T q i = qi := ⟨_, rfl⟩
      rw [hqi] at HU2 HNX
      have HQB : Hid (QBd q qi i) := Lib.hid (by rw [← hqi]; exact HB.out.2)
      have HOK : Hid (Qok qi) := Lib.hid (by rw [← hqi]; exact hok.run T i)
      clear hqi
      obtain ⟨i2, hi2⟩ : ∃ i2, i + wd T i = i2 := ⟨_, rfl⟩
      rw [hi2] at HU2 HNX hwl
      have hii : i < i2 := by omega
      clear hi2 hwp
      have hcpl : cpt T i ≤ 2147483647 := decode_le T i
      have e1 := HU2.out.rw.blk.cell 1
      have e6 := HU2.out.rw.blk.cell 6
      have e7 := HU2.out.rw.blk.cell 7
      have e8 := HU2.out.rw.blk.cell 8
      have e9 := HU2.out.rw.blk.cell 9
      have e10 := HU2.out.rw.blk.cell 10
      have e13 := HU2.out.rw.blk.cell 13
      have e14 := HU2.out.rw.blk.cell 14
      have e18 := HU2.out.rw.blk.cell 18
      have e20 := HU2.out.rw.blk.cell 20
      have e21 := HU2.out.rw.blk.cell 21
      have fr := HU2.out.rw.blk.free
      simp only [Cb.cells, up] at e1 e6 e7 e8 e9 e10 e13 e14 e18 e20 e21
      rw [HH.out.2.2.2.2.2] at e21
      rw [HH.out.2.2.2.2.1] at e13
      rcases sw_cases T i with ⟨htm, hcs⟩ | ⟨htm, hcs⟩
      · have HT : Hid (stepQ T i qi = qi.nl) := Lib.hid (by unfold stepQ; rw [if_pos htm])
        clear htm
        obtain ⟨n0, hn0⟩ : ∃ n0 : Nat, ((u : Int) + (i : Int)) = (n0 : Int) := ⟨u + i, by omega⟩
        obtain ⟨n1, hn1⟩ : ∃ n1 : Nat, ((n0 : Int) + 1) = (n1 : Int) := ⟨n0 + 1, by omega⟩
        have hcs2 : cpt T i = 10 ∨ cpt T i = 8232 ∨ cpt T i = 8233 ∨ (cpt T i = 13 ∧ decide (n1 < m) = false) ∨ (cpt T i = 13 ∧ n1 < m ∧ ∃ z : Int, w2.cell? ⟨o, n1, none⟩ = some (.int .u8 z) ∧ (z == 10) = false) := by
          have hmm := HH.out.2.2.2.1
          rcases hcs with h | h | h | ⟨h, hn⟩ | ⟨h, h1, hn⟩
          · exact .inl h
          · exact .inr (.inl h)
          · exact .inr (.inr (.inl h))
          · exact .inr (.inr (.inr (.inl ⟨h, decide_eq_false (by omega)⟩)))
          · refine .inr (.inr (.inr (.inr ⟨h, by omega, ((T[i + 1]'h1).toNat : Int), ?_, ?_⟩)))
            · have := HU2.out.out (i + 1) h1
              rwa [show u + (i + 1) = n1 by omega] at this
            · exact beq_eq_false_iff_ne.2 (by omega)
        clear hcs
        generalize cpt T i = cp at *
        have hn0b : n0 ≤ 4194304 := by omega
        rcases hcs2 with rfl | rfl | rfl | ⟨rfl, hd⟩ | ⟨rfl, hd, z, hz, hz0⟩
        all_goals
          go_upto_region 14 with fail
          go_cut [77] (fun x wc => BoP (!qi.ls && qi.hp) w2 x wc)
          case first =>
            rcases hls : qi.ls with _ | _
            all_goals
              rcases hhp : qi.hp with _ | _
              all_goals
                rw [hls] at e20
                rw [hhp] at e18
                have HLP := Lib.hid (And.intro hls hhp)
                clear hls hhp
                go_wp2_with fail
                go_meet
                exact ⟨by rw [HLP.out.1, HLP.out.2]; rfl, rfl⟩
          case rest =>
          obtain ⟨rfl, hcw⟩ := hcut
          have hcw1 := hcw.symm
          subst hcw1
          clear hcw
          obtain ⟨cv, hcv⟩ : ∃ cv, (!qi.ls && qi.hp) = cv := ⟨_, rfl⟩
          rw [hcv]
          have HCV := Lib.hid hcv
          clear hcv
          go_upto_if 77 with fail
          go_cut [] (fun wx => GX c0 T o u r w sm g qi.cover i2 wx)
          case first =>
            cases cv
            · have HCN : Hid (qi.cover = qi) := Lib.hid (by have := HCV.out; unfold Pq.cover; rw [this]; rfl)
              go_wp2_with fail
              go_meet
              rw [HCN.out]
              exact ⟨sv, HU2.out⟩
            · have HCN : Hid (qi.cover = qi.app 0 qi.ol qi.oc none) := Lib.hid (by have := HCV.out; unfold Pq.cover; rw [this]; rfl)
              go_upto_region 15 with fail
              go_still_tail 22, (by kernel_rfl)
              change wpList _ _ _ _ _ w2.drew
              have HU3 := Lib.hid HU2.out.drew
              obtain ⟨w3, hw3⟩ : ∃ w3, w2.drew = w3 := ⟨_, rfl⟩
              rw [hw3] at HU3 ⊢
              clear hw3
              have hbq := HQB.out
              have HD : Hid (Bnd ((0 : Int) - qi.gc) ∧ Bnd ((0 : Int) - 0) ∧ Bnd (qi.ol - qi.ol) ∧ Bnd (qi.oc - qi.oc) ∧ Bnd ((0 : Int) - qi.on)) := Lib.hid (by have := hbq.gc0; have := hbq.gc1; have := hbq.on; unfold Bnd; omega)
              have HLN : Hid ((txt false qi.toks).length ≤ 1073741000) := Lib.hid (by have := txt_len qi.toks false HOK.out.wk; have := hbq.len; omega)
              clear hbq
              go_wp2_with (go_at_call 28; (refine (amw_any g (up c0 sv qi) (txt false qi.toks) qi.gl 0 0 qi.ol qi.oc 0 false w3 ⟨HU3.out.rw.blk, HU3.out.rw.own, HU3.out.rw.tab⟩ (last_ok _ HOK.out.wk) HD.out.1 HD.out.2.1 HD.out.2.2.1 HD.out.2.2.2.1 HD.out.2.2.2.2 HLN.out).mono ?_; rintro e w4 ⟨v', rfl, hc4, hf4⟩; have H4 : Hid (GX c0 T o u r w sm g qi.cover i2 w4) := Lib.hid (by rw [HCN.out]; exact HU3.out.app HOK.out.wk hc4 hf4); clear hc4 hf4))
              go_meet
              exact H4.out
          case rest =>
            obtain ⟨sm2, hU⟩ := hcut
            clear e1 e6 e7 e8 e9 e10 e13 e14 e18 e20 e21 fr
            have hbq := HQB.out
            obtain ⟨z, hz⟩ : ∃ z, qi.cover.gl = z := ⟨_, rfl⟩
            have hzz : qi.cover.gl = qi.gl := by unfold Pq.cover; split <;> rfl
            have hz1 : 0 ≤ z := by have := hbq.gl0; omega
            have hz2 : z ≤ 33554432 := by have := hbq.gl; omega
            have hcl : qi.cover.toks.length ≤ qi.toks.length + 1 := by unfold Pq.cover; split <;> simp [Pq.app]
            have HLN : Hid ((txt false qi.cover.toks).length + 1 ≤ maxLen ∧ ((txt false qi.cover.toks).length + 1) * 1 ≤ 140737488355328) := Lib.hid (by have := txt_len qi.cover.toks false HOK.out.cover.wk; have := hbq.len; unfold maxLen; omega)
            have e6 := hU.rw.blk.cell 6
            have e7 := hU.rw.blk.cell 7
            have e14 := hU.rw.blk.cell 14
            have fr := hU.rw.blk.free
            simp only [Cb.cells, up] at e6 e7 e14
            rw [hz] at e6
            have HZ := Lib.hid hz
            have HUU := Lib.hid hU
            clear hU hbq hz hzz hcl
            go_upto_region 19 with fail
            clear e6 e7 e14 fr
            have HR5 := Lib.hid (((Rw.put (w0 := wc) (v0 := sm2) ⟨HUU.out.rw.blk, HUU.out.rw.own, HUU.out.rw.tab, Fr.refl _ _ _⟩ 6 (.int .i64 (z + 1))).put 7 (.int .i64 0)).put 14 (.int .i64 0))
            obtain ⟨w5, hw5⟩ : ∃ w5, ((wc.setCell ⟨g, 6, none⟩ (.int .i64 (z + 1))).setCell ⟨g, 7, none⟩ (.int .i64 0)).setCell ⟨g, 14, none⟩ (.int .i64 0) = w5 := ⟨_, rfl⟩
            rw [hw5] at HR5 ⊢
            clear hw5
            have e1 := HR5.out.blk.cell 1
            simp only [Cb.cells, up] at e1
            have e1' : w5.cell? ⟨g, 1, none⟩ = some sm2 := e1
            clear e1
            have hgw := HR5.out.blk.lt
            go_upto_region 20 with (at_builtin; (refine wpList_push w5 rfl (.tmp 121) (.tmp 122) 22 rfl (g + 1) 5 .u8 1 Tryd.underlying22 copyB_info sm2 (txt false qi.cover.toks) _ rfl HR5.out.own rfl HLN.out.1 HLN.out.2 (by omega) ?_; intro v' w6 ho6 hg6 hn6; have HR6 := Lib.hid (HR5.out.push ho6 hg6); obtain ⟨ao6, n6, cap6, hv6⟩ := own_slice ho6; subst hv6; have f1 := HR6.out.blk.cell 1; have f20 := HR6.out.blk.cell 20; have ff := HR6.out.blk.free; have f1' : w6.cell? ⟨g, 1, none⟩ = some sm2 := f1; have f20' : w6.cell? ⟨g, 20, none⟩ = some (.bool qi.cover.ls) := f20; clear ho6 hg6 hn6 f1 f20 e1'))
            go_wp2_with fail
            go_roundg (T.size - i2)
            case measure => omega
            case rel =>
              refine ⟨i2, .slice ao6 n6 cap6, HNX.out.2, Nat.le_refl _, ?_⟩
              rw [HNX.out.1, HT.out]
              refine HUU.out.here (q' := qi.cover.brk) ((HR6.out.put 1 (.slice ao6 n6 cap6)).put 20 (.bool false)) ?_ ?_
              · rw [← HZ.out]; exact cells_brk c0 sm2 _ _
              · exact (txt_nl _).symm
      · rcases hcs with ⟨hc13, hun, h1, hn⟩ | ⟨h1, h2, h3, h4, hu⟩
        · have HT : Hid (stepQ T i qi = qi) := Lib.hid (by unfold stepQ; rw [if_neg (by rw [htm]; simp), if_pos hc13])
          obtain ⟨n0, hn0⟩ : ∃ n0 : Nat, ((u : Int) + (i : Int)) = (n0 : Int) := ⟨u + i, by omega⟩
          obtain ⟨n1, hn1⟩ : ∃ n1 : Nat, ((n0 : Int) + 1) = (n1 : Int) := ⟨n0 + 1, by omega⟩
          have hmm := HH.out.2.2.2.1
          have hd : n1 < m := by omega
          have hz : w2.cell? ⟨o, n1, none⟩ = some (.int .u8 10) := by
            have := HU2.out.out (i + 1) h1
            rw [show u + (i + 1) = n1 by omega, hn] at this
            exact this
          have hn0b : n0 ≤ 4194304 := by omega
          clear htm hun hn h1 hmm
          generalize cpt T i = cp at *
          subst hc13
          go_wp2_with fail
          go_roundg (T.size - i2)
          case measure => omega
          case rel => exact ⟨i2, sv, HNX.out.2, Nat.le_refl _, by rw [HNX.out.1, HT.out]; exact HU2.out⟩
        · have HT : Hid (stepQ T i qi = { qi with gcol := qi.gcol + (un T i : Int) }) := Lib.hid (by unfold stepQ; rw [if_neg (by rw [htm]; simp), if_neg h1])
          have hbq := HQB.out
          obtain ⟨z, hz⟩ : ∃ z, qi.gcol = z := ⟨_, rfl⟩
          have hz1 : 0 ≤ z := by have := hbq.gcol0; omega
          have hz2 : z ≤ 33554432 := by have := hbq.gcol1; omega
          rw [hz] at e14
          have HZ := Lib.hid hz
          clear hbq hz
          have q1 : ((cpt T i : Int) == 13) = false := beq_eq_false_iff_ne.2 (by omega)
          have q2 : ((cpt T i : Int) == 10) = false := beq_eq_false_iff_ne.2 (by omega)
          have q3 : ((cpt T i : Int) == 8232) = false := beq_eq_false_iff_ne.2 (by omega)
          have q4 : ((cpt T i : Int) == 8233) = false := beq_eq_false_iff_ne.2 (by omega)
          have HQ4 := Lib.hid (And.intro q1 (And.intro q2 (And.intro q3 q4)))
          clear h1 h2 h3 h4 htm
          rcases hu with ⟨hle, hun⟩ | ⟨hle, hun⟩
          all_goals
            have HUN := Lib.hid hun
            clear hun
            generalize cpt T i = cp at *
            go_wp2_with fail
            go_roundg (T.size - i2)
            case measure => omega
            case rel =>
              refine ⟨i2, sv, HNX.out.2, Nat.le_refl _, ?_⟩
              rw [HNX.out.1, HT.out, HUN.out, HZ.out]
              exact HU2.out.here (Rw.put (w0 := w2) (v0 := sv) ⟨HU2.out.rw.blk, HU2.out.rw.own, HU2.out.rw.tab, Fr.refl _ _ _⟩ 14 _) (by kernel_rfl) rfl
end Go.Proofs.YtfbeeekakfllpaaDoor
