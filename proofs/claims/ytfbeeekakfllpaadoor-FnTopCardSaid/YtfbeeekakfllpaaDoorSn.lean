/-
  (*zzRef).cover and scan. No statement of the seat is proved here.
-/
import Derived.Test.YtfbeeekakfllpaaDoorEm
import Derived.Test.YtfbeeekakfllpaaDoorQv
import Derived.Test.YtfbeeekakfllpaaDoorIter
import Derived.StillTailTactics
import Derived.Lib.SlBytesRow
namespace Go.Proofs.YtfbeeekakfllpaaDoor
open Go.RowKit
set_option linter.unusedVariables false
set_option linter.unusedSimpArgs false
/-- what a call on the reference leaves as it was -/
structure Kst (k k' : Rk) : Prop where
  ns : k'.ns = k.ns
  ploc : k'.ploc = k.ploc
  plen : k'.plen = k.plen
  pname : k'.pname = k.pname
theorem Kst.refl (k : Rk) : Kst k k := ⟨rfl, rfl, rfl, rfl⟩
theorem Kst.trans {a b c : Rk} (h : Kst a b) (g : Kst b c) : Kst a c := ⟨g.ns.trans h.ns, g.ploc.trans h.ploc, g.plen.trans h.plen, g.pname.trans h.pname⟩
def IsR (f B : Nat) (k : Rk) (q' : Pq) (w : World) (l : Int) (e : Ending) (w' : World) : Prop := ∃ k' : Rk, e = .returned (.tuple #[]) ∧ Rst w f B k w' k' q' ∧ Kst k k' ∧ k'.last = l
set_option maxRecDepth 100000 in
theorem cover_any (f B : Nat) (k : Rk) (q : Pq) (w : World) (h : Rf w f B k q) (hB : B ≤ w.heap.size) (hc : q.cur.length ≤ 33554432) (hr : q.rows.length ≤ 33554432) (ht : sgs q.toks ≤ 33554432) :
    Calls Tryd.prog 30 #[.pointer (some ⟨f, 0, none⟩)] w (IsR f B k (q.app 0 q.ol q.oc none) w k.last) := by
  have c10 := h.blk.cell 10
  have c11 := h.blk.cell 11
  have hl := h.blk.lt
  simp [Rk.cells] at c10 c11
  have HH := Lib.hid (And.intro h (And.intro hB (And.intro hc (And.intro hr ht))))
  clear h hB hc hr ht
  go_enter Tryd.func30, Tryd.ntmps30
  go_still_tail 10, (by kernel_rfl)
  change wpList _ _ _ _ _ w.drew
  have HD : Hid (Rf w.drew f B k q) := Lib.hid (HH.out.1.kept ⟨rfl, rfl, rfl, Nat.le_refl _, fun _ _ _ => rfl⟩)
  go_wp2_with (go_at_call 31; refine (emit_any f B k q 0 q.ol q.oc none 4 (-1) rfl rfl _ HD.out HH.out.2.1 HH.out.2.2.1 HH.out.2.2.2.1 HH.out.2.2.2.2).mono ?_; rintro e w4 ⟨k', rfl, hR, h1, h2, h3, h4, h5⟩)
  go_end0
  refine ⟨k', rfl, ?_, ⟨h1, h2, h3, h4⟩, h5⟩
  have h1 : Rst w f B k w.drew k q := (Rst.refl HH.out.1).kept ⟨rfl, rfl, rfl, Nat.le_refl _, fun _ _ _ => rfl⟩
  exact h1.trans hR
def BoW (b : Bool) (w : World) (x : Value) (wc : World) : Prop := x = .bool b ∧ wc = w
/-- at a rune start of the printed text -/
structure Sw (k0 : Rk) (T : ByteArray) (o u r f B : Nat) (w0 : World) (q : Pq) (i : Nat) (k : Rk) (wr : World) : Prop where
  it : It wr r T i
  st : Rst w0 f B k0 wr k q
  ks : Kst k0 k
  la : k.last = (u : Nat)
  out : Lib.Bytes wr o u T
  ol : o < w0.heap.size
  of : ¬ k0.fp f o
  rw0 : w0.heap.size ≤ r
  nr : ¬ k.fp f r
  ro : r ≠ o
theorem Sw.step {k0 : Rk} {T : ByteArray} {o u r f B : Nat} {w0 : World} {q q' : Pq} {i : Nat} {k k' : Rk} {wr w' : World} (h : Sw k0 T o u r f B w0 q i k wr) (hs : Rst wr f B k w' k' q') (hk : Kst k k') (hl : k'.last = k.last) : Sw k0 T o u r f B w0 q' i k' w' := by
  have hof : ¬ k.fp f o := fun e => h.of ((h.st.nw o e).resolve_right (by have := h.ol; omega))
  have hol : o < wr.heap.size := Nat.lt_of_lt_of_le h.ol h.st.ch.size
  exact ⟨(hs.ch.block r h.it.lt h.nr).trans h.it, h.st.trans hs, h.ks.trans hk, hl.trans h.la, fun j hj => (World.cell?_of_block (w := wr) (hs.ch.block o hol hof)).trans (h.out j hj), h.ol, h.of, h.rw0, fun e => by
    rcases hs.nw r e with e | e
    · exact h.nr e
    · have := h.it.lt; omega, h.ro⟩
theorem Sw.next {k0 : Rk} {T : ByteArray} {o u r f B : Nat} {w0 : World} {q : Pq} {i i' : Nat} {k : Rk} {wr w2 : World} (h : Sw k0 T o u r f B w0 q i k wr) (hit : It w2 r T i') (hg : wr.grownBy w2 (some r)) : Sw k0 T o u r f B w0 q i' k w2 := by
  have hol : o < wr.heap.size := Nat.lt_of_lt_of_le h.ol h.st.ch.size
  refine ⟨hit, ⟨h.st.rf.eq (fun j hj => hg.block j (h.st.rf.lt j hj) (fun e => by cases e; exact h.nr hj)), h.st.ch.gb hg (fun j e hl => by cases e; have := h.rw0; omega), h.st.nw⟩, h.ks, h.la, fun j hj => ?_, h.ol, h.of, h.rw0, h.nr, h.ro⟩
  exact (World.cell?_of_block (w := wr) (hg.block o hol (fun e => by cases e; exact h.ro rfl))).trans (h.out j hj)
def GSw (k0 : Rk) (T : ByteArray) (o u r f B : Nat) (w0 : World) (q : Pq) (i : Nat) (wx : World) : Prop := ∃ k, Sw k0 T o u r f B w0 q i k wx
def GSn (k0 : Rk) (T : ByteArray) (o u r f B : Nat) (w0 : World) (q : Pq) (n : Nat) (wr : World) : Prop := ∃ i : Nat, Bd T i ∧ T.size - i ≤ n ∧ GSw k0 T o u r f B w0 (runQ T q i) i wr
theorem cells_brkR (k : Rk) (q : Pq) (v' : Value) : (((((k.cells q).setIfInBounds 7 (.int .i64 (q.gl + 1))).setIfInBounds 9 (.int .i64 0)).setIfInBounds 8 (.int .i64 0)).setIfInBounds 0 v').setIfInBounds 6 (.bool false) = #[v', k.nv, .int .i64 k.ploc, .int .i64 k.plen, .string k.pname, .bool q.hp, .bool false, .int .i64 (q.gl + 1), .int .i64 0, .int .i64 0, .int .i64 q.ol, .int .i64 q.oc, .int .i64 q.on, .bool q.hn, .int .i64 k.last, .int .i64 (sgs q.toks : Nat)] := by kernel_rfl
theorem cells_brkQ (k : Rk) (q : Pq) (v' : Value) : ({ k with v := v', cvs := k.cvs ++ [k.lv], lv := .slice none 0 0 } : Rk).cells q.brk = #[v', k.nv, .int .i64 k.ploc, .int .i64 k.plen, .string k.pname, .bool q.hp, .bool false, .int .i64 (q.gl + 1), .int .i64 0, .int .i64 0, .int .i64 q.ol, .int .i64 q.oc, .int .i64 q.on, .bool q.hn, .int .i64 k.last, .int .i64 (sgs q.toks : Nat)] := by
  have : sgs q.brk.toks = sgs q.toks := by show sgs (q.toks ++ _) = _; rw [sgs_app]; rfl
  unfold Rk.cells
  rw [this]
  rfl
set_option maxRecDepth 100000 in
set_option maxHeartbeats 4000000 in
theorem scan_any (f B : Nat) (k0 : Rk) (q : Pq) (o u cap m : Nat) (T : ByteArray) (w : World) (hlu : k0.last = (u : Nat)) (h : Rf w f B k0 q) (hB : B ≤ w.heap.size) (ho : Lib.Bytes w o u T) (hol : o < w.heap.size) (hof : ¬ k0.fp f o) (hT : 0 < T.size) (hc : u + T.size ≤ cap) (hcz : u + T.size ≤ 4194304)
    (hb : Qb q u m) (hm1 : m ≤ 2097152) :
    Calls Tryd.prog 18 #[.pointer (some ⟨f, 0, none⟩), .slice (some ⟨o, 0, none⟩) (u + T.size) cap] w (IsR f B k0 (runQ T q T.size) w ((u + T.size : Nat) : Int)) := by
  have hconv := fun (w1 : World) (hb : Lib.Bytes w1 o u T) => Lib.run_convert_whole (P := Tryd.prog) w1 22 5 9 Tryd.underlying22 Tryd.underlying5 Tryd.underlying9 o u T hb (cap - u)
  have hcv := hconv w ho
  obtain ⟨M, hm⟩ : ∃ M, u + T.size = M := ⟨_, rfl⟩
  have hlen : M - u = T.size := by omega
  have e13 := h.blk.cell 14
  simp only [Rk.cells] at e13
  rw [hlu] at e13
  rw [hm] at hc hcz ⊢
  have hum : u ≤ M := by omega
  have HH := Lib.hid (And.intro h (And.intro ho (And.intro hof (And.intro hm (And.intro hlu (And.intro hb hB))))))
  obtain ⟨Q, hQ⟩ : ∃ Q, IsR f B k0 (runQ T q T.size) w ((M : Nat) : Int) = Q := ⟨_, rfl⟩
  rw [hQ]
  have HQ := Lib.hid hQ
  have hfl := h.blk.lt
  clear hQ h ho hof hm hconv hlu hb hB
  go_enter Tryd.func18, Tryd.ntmps18
  go_wp2_with fail
  clear hcv e13
  obtain ⟨r, hr⟩ : ∃ r, w.heap.size = r := ⟨_, rfl⟩
  have HR := Lib.hid hr
  rw [hr] at hol hfl ⊢
  clear hr
  go_loopg [] T.size (fun k wr => GSn k0 T o u r f B w q k wr)
  case atStart =>
    have hrr := HR.out
    have hg : w.grownBy (w.iter T 0) none := World.grownBy_alloc _ _ _
    refine ⟨0, Bd.zero T, Nat.le_refl _, k0, ⟨by rw [← hrr]; exact It.new w T, (Rst.refl HH.out.1).kept hg, Kst.refl _, HH.out.2.2.2.2.1, fun i hi => cell_al (HH.out.2.1 i hi), by omega, HH.out.2.2.1, by omega, fun e => by have := HH.out.1.lt r e; omega, by omega⟩⟩
  case round =>
    obtain ⟨i, hbd, hk, kk, hU⟩ := hrel
    have hiz := hbd.le
    have hbb := HH.out.2.2.2.2.2.1.run T i (by have := HH.out.2.2.2.1; omega)
    rcases (show i = T.size ∨ i < T.size by omega) with rfl | hlt
    · have HU := Lib.hid hU
      have e13 := hU.st.rf.blk.cell 14
      have f13 := hU.st.rf.blk.free 14
      have hfl := hU.st.rf.blk.lt
      clear hU hbd hbb
      simp only [Rk.cells] at e13
      go_upto_region 16 with (refine wpList_next_end rfl _ rfl r T T.size rfl HU.out.it (Nat.lt_irrefl _) ?_)
      go_wp2_with fail
      go_end0
      rw [← HQ.out]
      have hx := Rx.fin ((Rx.start HU.out.st.rf).put 14 (.int .i64 M)) { kk with last := (M : Int) } _ rfl rfl rfl rfl rfl rfl rfl (by kernel_rfl)
      exact ⟨_, rfl, HU.out.st.trans hx, ⟨HU.out.ks.ns, HU.out.ks.ploc, HU.out.ks.plen, HU.out.ks.pname⟩, rfl⟩
    · have HU := Lib.hid hU
      have HB := Lib.hid (And.intro hbd hbb)
      clear hU hbd hbb
      go_upto_region 3 with (refine wpList_next_at rfl _ rfl r T i rfl HU.out.it hlt ?_; intro w2 hit2 hg2)
      have hcp : (Utf8.decode T i).1 = cpt T i := rfl
      rw [hcp]
      clear hcp
      have hnx : i + (Utf8.decode T i).2 = i + wd T i := rfl
      rw [hnx] at hit2
      have HU2 := Lib.hid (HU.out.next hit2 hg2)
      have HNX : Hid (runQ T q (i + wd T i) = stepQ T i (runQ T q i) ∧ Bd T (i + wd T i)) := Lib.hid ⟨runQ_next T q i HB.out.1.at_ hlt, HB.out.1.next hlt⟩
      have hwp := wd_pos T i hlt
      have hwl := wd_le T i hlt
      clear hit2 hg2 hnx
      obtain ⟨qi, hqi⟩ : ∃ qi, runQ T q i = qi := ⟨_, rfl⟩
      rw [hqi] at HU2 HNX
      have HQB : Hid (Qb qi (u + i) m) := Lib.hid (by rw [← hqi]; exact HB.out.2)
      clear hqi
      obtain ⟨i2, hi2⟩ : ∃ i2, i + wd T i = i2 := ⟨_, rfl⟩
      rw [hi2] at HU2 HNX hwl
      have hii : i < i2 := by omega
      clear hi2 hwp
      have hcpl : cpt T i ≤ 2147483647 := decode_le T i
      have e5 := HU2.out.st.rf.blk.cell 5
      have e6 := HU2.out.st.rf.blk.cell 6
      have e8 := HU2.out.st.rf.blk.cell 8
      have e13 := HU2.out.st.rf.blk.cell 14
      have fr := HU2.out.st.rf.blk.free
      have hfl := HU2.out.st.rf.blk.lt
      simp only [Rk.cells] at e5 e6 e8 e13
      rw [HU2.out.la] at e13
      rcases sw_cases T i with ⟨htm, hcs⟩ | ⟨htm, hcs⟩
      · have HT : Hid (stepQ T i qi = qi.nl) := Lib.hid (by unfold stepQ; rw [if_pos htm])
        clear htm e8
        obtain ⟨n0, hn0⟩ : ∃ n0 : Nat, ((u : Int) + (i : Int)) = (n0 : Int) := ⟨u + i, by omega⟩
        obtain ⟨n1, hn1⟩ : ∃ n1 : Nat, ((n0 : Int) + 1) = (n1 : Int) := ⟨n0 + 1, by omega⟩
        have hcs2 : cpt T i = 10 ∨ cpt T i = 8232 ∨ cpt T i = 8233 ∨ (cpt T i = 13 ∧ decide (n1 < M) = false) ∨ (cpt T i = 13 ∧ n1 < M ∧ ∃ z : Int, w2.cell? ⟨o, n1, none⟩ = some (.int .u8 z) ∧ (z == 10) = false) := by
          have hmm := HH.out.2.2.2.1
          rcases hcs with h | h | h | ⟨h, hn⟩ | ⟨h, h1, hn⟩
          · exact .inl h
          · exact .inr (.inl h)
          · exact .inr (.inr (.inl h))
          · exact .inr (.inr (.inr (.inl ⟨h, decide_eq_false (by omega)⟩)))
          · refine .inr (.inr (.inr (.inr ⟨h, by omega, ((T[i + 1]'h1).toNat : Int), ?_, ?_⟩)))
            · have := HU2.out.out (i + 1) h1
              rwa [show u + (i + 1) = n1 by omega] at this
            · exact beq_eq_false_iff_ne.2 (by omega)
        clear hcs
        generalize cpt T i = cp at *
        have hn0b : n0 ≤ 4194304 := by omega
        rcases hcs2 with rfl | rfl | rfl | ⟨rfl, hd⟩ | ⟨rfl, hd, z, hz, hz0⟩
        all_goals
          go_upto_region 6 with fail
          go_cut [71] (fun x wc => BoW (!qi.ls && qi.hp) w2 x wc)
          case first =>
            rcases hls : qi.ls with _ | _
            all_goals
              rcases hhp : qi.hp with _ | _
              all_goals
                rw [hls] at e6
                rw [hhp] at e5
                have HLP := Lib.hid (And.intro hls hhp)
                clear hls hhp
                go_wp2_with fail
                go_meet
                exact ⟨by rw [HLP.out.1, HLP.out.2]; rfl, rfl⟩
          case rest =>
          obtain ⟨rfl, hcw⟩ := hcut
          have hcw1 := hcw.symm
          subst hcw1
          clear hcw
          obtain ⟨cv, hcv⟩ : ∃ cv, (!qi.ls && qi.hp) = cv := ⟨_, rfl⟩
          rw [hcv]
          have HCV := Lib.hid hcv
          clear hcv
          go_upto_if 71 with fail
          go_cut [] (fun wx => GSw k0 T o u r f B w qi.cover i2 wx)
          case first =>
            cases cv
            · have HCN : Hid (qi.cover = qi) := Lib.hid (by have := HCV.out; unfold Pq.cover; rw [this]; rfl)
              go_wp2_with fail
              go_meet
              rw [HCN.out]
              exact ⟨kk, HU2.out⟩
            · have HCN : Hid (qi.cover = qi.app 0 qi.ol qi.oc none) := Lib.hid (by have := HCV.out; unfold Pq.cover; rw [this]; rfl)
              have HLN : Hid (qi.cur.length ≤ 33554432 ∧ qi.rows.length ≤ 33554432 ∧ sgs qi.toks ≤ 33554432 ∧ B ≤ w2.heap.size) := Lib.hid (by have hb := HQB.out; have := hb.len; have := hb.rows; have := hb.cur; have := hb.sg; have := HH.out.2.2.2.2.2.2; have := HU2.out.st.ch.size; omega)
              go_wp2_with (go_at_call 30; (refine (cover_any f B kk qi _ HU2.out.st.rf HLN.out.2.2.2 HLN.out.1 HLN.out.2.1 HLN.out.2.2.1).mono ?_; rintro e w4 ⟨k', rfl, hs4, hk4, hl4⟩; have H4 : Hid (GSw k0 T o u r f B w qi.cover i2 w4) := Lib.hid ⟨k', by rw [HCN.out]; exact HU2.out.step hs4 hk4 hl4⟩; clear hs4 hk4 hl4))
              go_meet
              exact H4.out
          case rest =>
            obtain ⟨k2, hU⟩ := hcut
            clear e5 e6 e13 fr hfl
            have hbq := HQB.out
            obtain ⟨z, hz⟩ : ∃ z, qi.cover.gl = z := ⟨_, rfl⟩
            have hzz : qi.cover.gl = qi.gl := by unfold Pq.cover; split <;> rfl
            have hz1 : 0 ≤ z := by have := hbq.gl0; omega
            have hz2 : z ≤ 33554432 := by have := hbq.gl1; omega
            have hrw : qi.cover.rows.length = qi.rows.length := by unfold Pq.cover; split <;> rfl
            have HLN : Hid (((k2.cvs ++ [k2.lv]).map (fun x => [x])).length + 1 ≤ maxLen ∧ (((k2.cvs ++ [k2.lv]).map (fun x => [x])).length + 1) * 24 ≤ 140737488355328 ∧ B ≤ wc.heap.size) := Lib.hid (by
              have := hbq.rows; have := hU.st.rf.lns.rl; have := HH.out.2.2.2.2.2.2; have := hU.st.ch.size; simp only [List.length_map, List.length_append, List.length_cons, List.length_nil, maxLen]; refine ⟨by omega, by omega, by omega⟩)
            have e7 := hU.st.rf.blk.cell 7
            have e8 := hU.st.rf.blk.cell 8
            have e9 := hU.st.rf.blk.cell 9
            have fr := hU.st.rf.blk.free
            have hfl := hU.st.rf.blk.lt
            simp only [Rk.cells] at e7 e8 e9
            rw [hz] at e7
            have HZ := Lib.hid hz
            have HUU := Lib.hid hU
            clear hU hbq hz hzz hrw
            go_upto_region 11 with fail
            clear e7 e8 e9 fr hfl
            have HR5 := Lib.hid ((((Rx.start HUU.out.st.rf).put 7 (.int .i64 (z + 1))).put 9 (.int .i64 0)).put 8 (.int .i64 0))
            obtain ⟨w5, hw5⟩ : ∃ w5, ((wc.setCell ⟨f, 7, none⟩ (.int .i64 (z + 1))).setCell ⟨f, 9, none⟩ (.int .i64 0)).setCell ⟨f, 8, none⟩ (.int .i64 0) = w5 := ⟨_, rfl⟩
            have HS5 : Hid (w5.heap.size = wc.heap.size) := Lib.hid (by rw [← hw5]; simp [World.setCell])
            rw [hw5] at HR5 ⊢
            clear hw5
            have e0 := HR5.out.blk.cell 0
            have e0' : w5.cell? ⟨f, 0, none⟩ = some k2.v := e0
            have hfl := HR5.out.blk.lt
            clear e0
            obtain ⟨vao, vn, vcap, hvf⟩ := OwnT.slice HR5.out.lns.out
            rw [hvf] at e0'
            have HVF := Lib.hid hvf
            clear hvf
            go_upto_region 12 with (at_builtin; (refine wpList_pushT _ rfl (.tmp 91) (.tmp 92) 64 96 1 rfl B Tryd.underlying64 24 (.slice none 0 0) rfl (by omega) info96 k2.v ((k2.cvs ++ [k2.lv]).map (fun x => [x])) [.slice none 0 0] HVF.out.symm (OwnT.gb HR5.out.lns.out (World.grownBy_alloc w5 _ none) (by cases k2.v.ownBlock <;> simp)) w5.heap.size rfl (Blk.new _ _ _) rfl (by intro u hu; simp at hu; subst hu; rfl) HLN.out.1 HLN.out.2.1 (by have := HLN.out.2.2; have := HS5.out; simp; omega) ?_; intro v' w6 ho6 hg6 hn6; have HR6 := Lib.hid (HR5.out.line (World.grownBy_alloc w5 _ none) ho6 hg6 hn6); obtain ⟨ao6, n6, cap6, hv6⟩ := ho6.slice; subst hv6; have f1 := HR6.out.blk.cell 0; have f6 := HR6.out.blk.cell 6; have ff := HR6.out.blk.free; have hf6 := HR6.out.blk.lt; have f1' : w6.cell? ⟨f, 0, none⟩ = some k2.v := f1; have f6' : w6.cell? ⟨f, 6, none⟩ = some (.bool qi.cover.ls) := f6; clear ho6 hg6 hn6 f1 f6 e0'))
            go_wp2_with fail
            go_roundg (T.size - i2)
            case measure => omega
            case rel =>
              refine ⟨i2, HNX.out.2, Nat.le_refl _, ?_⟩
              rw [HNX.out.1, HT.out]
              have hx := Rx.fin ((HR6.out.put 0 _).put 6 (.bool false)) { k2 with v := _, cvs := k2.cvs ++ [k2.lv], lv := .slice none 0 0 } qi.cover.brk rfl rfl rfl rfl rfl rfl rfl (by rw [← HZ.out]; exact (cells_brkR k2 qi.cover _).trans (cells_brkQ k2 qi.cover _).symm)
              exact ⟨_, HUU.out.step hx ⟨rfl, rfl, rfl, rfl⟩ rfl⟩
      · rcases hcs with ⟨hc13, hun, h1, hn⟩ | ⟨h1, h2, h3, h4, hu⟩
        · have HT : Hid (stepQ T i qi = qi) := Lib.hid (by unfold stepQ; rw [if_neg (by rw [htm]; simp), if_pos hc13])
          obtain ⟨n0, hn0⟩ : ∃ n0 : Nat, ((u : Int) + (i : Int)) = (n0 : Int) := ⟨u + i, by omega⟩
          obtain ⟨n1, hn1⟩ : ∃ n1 : Nat, ((n0 : Int) + 1) = (n1 : Int) := ⟨n0 + 1, by omega⟩
          have hmm := HH.out.2.2.2.1
          have hd : n1 < M := by omega
          have hz : w2.cell? ⟨o, n1, none⟩ = some (.int .u8 10) := by
            have := HU2.out.out (i + 1) h1
            rw [show u + (i + 1) = n1 by omega, hn] at this
            exact this
          have hn0b : n0 ≤ 4194304 := by omega
          clear htm hun hn h1 hmm
          generalize cpt T i = cp at *
          subst hc13
          go_wp2_with fail
          go_roundg (T.size - i2)
          case measure => omega
          case rel => exact ⟨i2, HNX.out.2, Nat.le_refl _, kk, by rw [HNX.out.1, HT.out]; exact HU2.out⟩
        · have HT : Hid (stepQ T i qi = { qi with gcol := qi.gcol + (un T i : Int) }) := Lib.hid (by unfold stepQ; rw [if_neg (by rw [htm]; simp), if_neg h1])
          have hbq := HQB.out
          obtain ⟨z, hz⟩ : ∃ z, qi.gcol = z := ⟨_, rfl⟩
          have hz1 : 0 ≤ z := by have := hbq.gcol0; omega
          have hz2 : z ≤ 33554432 := by have := hbq.gcol1; omega
          rw [hz] at e8
          have HZ := Lib.hid hz
          clear hbq hz
          have q1 : ((cpt T i : Int) == 13) = false := beq_eq_false_iff_ne.2 (by omega)
          have q2 : ((cpt T i : Int) == 10) = false := beq_eq_false_iff_ne.2 (by omega)
          have q3 : ((cpt T i : Int) == 8232) = false := beq_eq_false_iff_ne.2 (by omega)
          have q4 : ((cpt T i : Int) == 8233) = false := beq_eq_false_iff_ne.2 (by omega)
          have HQ4 := Lib.hid (And.intro q1 (And.intro q2 (And.intro q3 q4)))
          clear h1 h2 h3 h4 htm
          rcases hu with ⟨hle, hun⟩ | ⟨hle, hun⟩
          all_goals
            have HUN := Lib.hid hun
            clear hun
            generalize cpt T i = cp at *
            go_wp2_with fail
            go_roundg (T.size - i2)
            case measure => omega
            case rel =>
              refine ⟨i2, HNX.out.2, Nat.le_refl _, ?_⟩
              rw [HNX.out.1, HT.out, HUN.out, HZ.out]
              exact ⟨kk, HU2.out.step (Rx.fin ((Rx.start HU2.out.st.rf).put 8 _) kk _ rfl rfl rfl rfl rfl rfl rfl (by kernel_rfl)) (Kst.refl _) rfl⟩
end Go.Proofs.YtfbeeekakfllpaaDoor
