/-
  The printed text, the builder and the reference, side by side. No statement of the seat is proved here.
-/
import Derived.Test.YtfbeeekakfllpaaDoorLt
import Derived.Test.YtfbeeekakfllpaaDoorSa
import Derived.Test.YtfbeeekakfllpaaDoorAd
import Derived.Test.YtfbeeekakfllpaaDoorGc
import Derived.Test.YtfbeeekakfllpaaDoorPsn
import Derived.Test.YtfbeeekakfllpaaDoorRd
import Derived.Test.YtfbeeekakfllpaaDoorIw
namespace Go.Proofs.YtfbeeekakfllpaaDoor
open Go.RowKit Go.Maps
set_option linter.unusedVariables false
set_option linter.unusedSimpArgs false
/-- bytes as integers -/
def byI (T : ByteArray) : List Int := T.data.toList.map (fun b => (b.toNat : Int))
theorem byI_len (T : ByteArray) : (byI T).length = T.size := by unfold byI; rw [List.length_map, Array.length_toList]; rfl
theorem byI_cells (T : ByteArray) : Lib.strCells T = row .u8 (byI T) := by unfold Lib.strCells row byI; rw [List.map_map]; rfl
theorem byI_app (a b : ByteArray) : byI (a ++ b) = byI a ++ byI b := by
  unfold byI
  rw [ByteArray.data_append, Array.toList_append, List.map_append]
theorem byI_empty : byI ByteArray.empty = [] := rfl
theorem outv_own {w : World} {B : Nat} {v : Value} {pre : List Int} {T : ByteArray} {u : Nat} (h : Own .u8 5 w B v (pre ++ byI T)) (hu : pre.length = u) : OutV v u T w := by
  obtain ⟨ao, cap, hv, hin, hc, hz⟩ := h.form
  have hl : (pre ++ byI T).length = u + T.size := by rw [List.length_append, hu, byI_len]
  rcases hz with ⟨rfl, h0, rfl⟩ | ⟨g, rfl, _, hg⟩
  · have h0' : (pre ++ byI T).length = 0 := by rw [h0]; rfl
    rw [h0'] at hv
    exact .inl ⟨hv, by omega, by omega⟩
  · refine .inr ⟨g, cap, by rw [hv, hl], fun i hi => ?_, hg, by omega⟩
    obtain ⟨b, off, hx, _, hcell⟩ := hin.at (i := u + i) (by omega)
    cases hx
    rw [Nat.zero_add] at hcell
    rw [hcell, nth_get _ _ (by omega), List.getElem_append_right (by omega)]
    simp [byI, hu]
    rfl
/-- 'append(v, s...)', s a string; with the place of the new value -/
theorem wpList_pushSL {ops : Array Oper} {rest : List Oper} {o : Oper} {a : Act} {Q : Exit → Act → World → Prop} (w : World) (hgd : o.guard = none) (sl x : Operand)
    (ho : o.op = .call { callee := .builtin .append, args := #[sl, x], argTypes := #[22, 9] }) (B : Nat) (v : Value) (zs : List Int) (hs : a.eval sl = v) (hown : Own .u8 5 w B v zs) (st : ByteArray) (hx : a.eval x = .string st)
    (hl : zs.length + st.size ≤ 1073741824) (hB : B ≤ w.heap.size)
    (h : ∀ v' w', Own .u8 5 w' B v' (zs ++ byI st) → w.grownBy w' v.ownBlock → (v'.ownBlock = v.ownBlock ∨ ∃ y, v'.ownBlock = some y ∧ w.heap.size ≤ y) → wpList Tryd.prog ops Q rest (a.put o.dst v') w') : wpList Tryd.prog ops Q (o :: rest) a w := by
  obtain ⟨i0, hi, hz0, hz1, hz2⟩ := info_parts copyB_info
  refine wpList_plain hgd fun K hK => ?_
  have hm : zs.length + st.size ≤ maxLen := by unfold maxLen; omega
  obtain ⟨v', w', hr, h2, h3, h4⟩ := Lib.run_append_own_string (P := Tryd.prog) w B 22 9 o.type 5 i0 Tryd.underlying22 Tryd.underlying9 hi hz0 hz1 hz2 v zs.length (row .u8 zs) hown st hm (by omega) hB
  have hloc : v'.ownBlock = v.ownBlock ∨ ∃ y, v'.ownBlock = some y ∧ w.heap.size ≤ y := by
    obtain ⟨g1, g2⟩ := hown
    rcases g2 with ⟨rfl, h0⟩ | ⟨g, cap, cur, rfl, hB', hh, hc, hcm, hcs, ht⟩
    · obtain ⟨v2, w2, hr2, k2, _, _⟩ := Lib.run_append_own_string (P := Tryd.prog) w w.heap.size 22 9 o.type 5 i0 Tryd.underlying22 Tryd.underlying9 hi hz0 hz1 hz2 (.slice none 0 0) zs.length (row .u8 zs) ⟨g1, .inl ⟨rfl, h0⟩⟩ st hm (by omega) (Nat.le_refl _)
      have e0 : zs.length = 0 := h0
      rw [hr] at hr2
      injection hr2 with e1 e2
      subst e1
      rcases hv : v'.ownBlock with _ | y
      · exact .inl rfl
      · exact .inr ⟨y, rfl, (World.ownsRow.lt k2 y hv).1⟩
    · by_cases hroom : zs.length + st.size ≤ cap
      · have hr2 := Lib.run_append_room_string (P := Tryd.prog) w 22 9 o.type 5 i0 Tryd.underlying22 Tryd.underlying9 hi hz1 g zs.length cap cur hh st hroom (by unfold maxLen at hm; omega)
        rw [hr] at hr2
        injection hr2 with e1 e2
        subst e1
        exact .inl rfl
      · have hown' : w.ownsRow B 5 1 (.slice (some ⟨g, 0, none⟩) zs.length cap) zs.length (row .u8 zs) := ⟨g1, .inr ⟨g, cap, cur, rfl, hB', hh, hc, hcm, hcs, ht⟩⟩
        have hr2 := Lib.run_append_grow_string (P := Tryd.prog) w 22 9 o.type 5 i0 (.int .u8 0) Tryd.underlying22 Tryd.underlying9 hi hz0 ⟨g, 0, none⟩ zs.length cap (row .u8 zs) (by rw [hz1, row_length, Nat.mul_one]) (hown'.cells (g := g) rfl) st (by omega) (by unfold maxLen at hm; omega) (by rw [hz2]; exact growslice_fits (by unfold maxLen at hcm; omega) (by omega))
        rw [hr] at hr2
        injection hr2 with e1 e2
        subst e1
        exact .inr ⟨_, rfl, Nat.le_refl _⟩
  unfold Oper.wp execOp
  simp only [ho, resolve, invoke, builtin, Sem.run_bind, Sem.run_pure, Result.andThen_ok, List.map_toArray, List.map_cons, List.map_nil, hs, hx, hr]
  refine hK _ _ (h v' w' ?_ h3 hloc)
  show w'.ownsRow B 5 1 v' (zs ++ byI st).length (row .u8 (zs ++ byI st))
  rw [row_app, List.length_append, ← byI_cells, byI_len]
  exact h2
/-- what stands below the builder's map -/
structure Cx (wb : World) (b0 R bm g : Nat) : Prop where
  tab : Tab wb b0
  bR : b0 ≤ R
  Rw : R < wb.heap.size
  wm : wb.heap.size ≤ bm
  mg : bm < g
theorem Cx.tb {wb : World} {b0 R bm g : Nat} (h : Cx wb b0 R bm g) {w : World} (he : wb.grownBy w (some R)) : Tab w g := by
  have h1 := h.bR; have h2 := h.Rw; have h3 := h.wm; have h4 := h.mg
  exact (h.tab.below ((Below.refl _ _).grown he (by omega) (fun k e => by cases e; exact h1))).up (by omega)
structure Jn (wb : World) (b0 R : Nat) (w : World) (g : Nat) (x : Cb) (sm : Value) (qvs : List Value) (bm : Nat) (asc : Bool) (f B : Nat) (k : Rk) (q : Pq) (v : Value) (Bo : Nat) (pre : List Int) (T : ByteArray) (u m l : Nat) (rw : Array Value) : Prop where
  cx : Cx wb b0 R bm g
  en : wb.grownBy w (some R)
  bu : Bu w g x sm q qvs k.ns bm asc
  rf : Rf w f B k q
  fn : Fno x.fno q k.ns
  qb : Qb q u m
  nk : Nok k.ns m
  nm : ∀ s ∈ k.ns, s ∈ nms
  lu : x.lu = (u : Nat)
  la : k.last = (u : Nat)
  own : Own .u8 5 w Bo v (pre ++ byI T)
  pl : pre.length = u
  ob : ∀ o, v.ownBlock = some o → ¬ bfp g x sm qvs bm o
  of : ∀ o, v.ownBlock = some o → ¬ k.fp f o
  dj : ∀ i, bfp g x sm qvs bm i → ¬ k.fp f i
  e1 : x.loc = k.ploc
  e2 : x.pgl = k.plen
  e3 : x.pon = k.pname
  bs : B ≤ w.heap.size
  bB : bm ≤ B
  bf : bm ≤ f
  bo : bm ≤ Bo
  os : Bo ≤ w.heap.size
  lb : Blk w l 69 rw
  bl : bm ≤ l
  l1 : ¬ bfp g x sm qvs bm l
  l2 : ¬ k.fp f l
  l3 : v.ownBlock ≠ some l
theorem Rf.ge {w : World} {f B : Nat} {k : Rk} {q : Pq} (h : Rf w f B k q) {bm : Nat} (hB : bm ≤ B) (hf : bm ≤ f) : ∀ i, k.fp f i → bm ≤ i := by
  rintro i (rfl | hi | hi)
  · exact hf
  · exact Nat.le_trans hB (h.nms.lt i hi).1
  · exact Nat.le_trans hB (h.lns.lt i hi).1
section
variable {wb : World} {b0 R : Nat} {w : World} {g : Nat} {x : Cb} {sm : Value} {qvs : List Value} {bm : Nat} {asc : Bool} {f B : Nat} {k : Rk} {q : Pq} {v : Value} {Bo : Nat} {pre : List Int} {T : ByteArray} {u m l : Nat} {rw' : Array Value}
theorem Jn.outv (h : Jn wb b0 R w g x sm qvs bm asc f B k q v Bo pre T u m l rw') : OutV v u T w := outv_own h.own h.pl
theorem Jn.rn (h : Jn wb b0 R w g x sm qvs bm asc f B k q v Bo pre T u m l rw') : R < bm := Nat.lt_of_lt_of_le h.cx.Rw h.cx.wm
/-- another world in which its blocks stand -/
theorem Jn.eq (h : Jn wb b0 R w g x sm qvs bm asc f B k q v Bo pre T u m l rw') {w' : World} (he : wb.grownBy w' (some R)) (hs : w.heap.size ≤ w'.heap.size) (hb : ∀ i, bm ≤ i → i < w.heap.size → w'.heap[i]? = w.heap[i]?) : Jn wb b0 R w' g x sm qvs bm asc f B k q v Bo pre T u m l rw' := by
  have hmg := h.cx.mg
  obtain ⟨n, D, m1, m2, m3⟩ := h.bu.mp
  have hbl : ∀ i, bfp g x sm qvs bm i → w'.heap[i]? = w.heap[i]? := fun i hi => hb i (h.bu.lt i hi).2 (h.bu.lt i hi).1
  have hbu : Bu w' g x sm q qvs k.ns bm asc := ⟨⟨(hbl g (.inl rfl)).trans h.bu.cbd.blk, h.bu.cbd.own.eq (fun i hi => hbl i (.inr (.inl hi))), h.cx.tb he⟩, h.bu.ism, h.bu.cov, h.bu.as_, h.bu.qn.eq (fun i hi => hbl i (.inr (.inr (.inl hi)))), h.bu.ql, fun k hk hk' => (h.bu.qd k hk hk').eq (fun i hi => hbl i (.inr (.inr (.inr (.inr ⟨_, List.getElem_mem hk, hi⟩))))), h.bu.qs, h.bu.nm, ⟨n, D, m1.eq (hbl bm (.inr (.inr (.inr (.inl rfl))))), m2, m3⟩, h.bu.bg⟩
  exact ⟨h.cx, he, hbu, h.rf.eq (fun i hi => hb i (h.rf.ge h.bB h.bf i hi) (h.rf.lt i hi)), h.fn, h.qb, h.nk, h.nm, h.lu, h.la, h.own.eq (fun i hi => hb i (Nat.le_trans h.bo (h.own.lt i hi).1) (h.own.lt i hi).2), h.pl, h.ob, h.of, h.dj, h.e1, h.e2, h.e3, Nat.le_trans h.bs hs, h.bB, h.bf, h.bo, Nat.le_trans h.os hs, (hb l h.bl h.lb.lt).trans h.lb, h.bl, h.l1, h.l2, h.l3⟩
theorem Jn.gb (h : Jn wb b0 R w g x sm qvs bm asc f B k q v Bo pre T u m l rw') {w' : World} {r : Option Nat} (hg : w.grownBy w' r) (hr : r = none ∨ r = some R) : Jn wb b0 R w' g x sm qvs bm asc f B k q v Bo pre T u m l rw' := by
  have hR := h.rn
  refine h.eq ?_ hg.size (fun i hi hl => hg.block i hl ?_)
  · refine ⟨hg.os.trans h.en.os, hg.tape.trans h.en.tape, hg.output.trans h.en.output, Nat.le_trans h.en.size hg.size, fun i hi hn => (hg.block i (Nat.lt_of_lt_of_le hi h.en.size) (fun e => ?_)).trans (h.en.block i hi hn)⟩
    rcases hr with rfl | rfl
    · cases e
    · exact hn e
  · rcases hr with rfl | rfl
    · intro e; cases e
    · intro e; cases e; omega
/-- a text is printed -/
theorem Jn.push (h : Jn wb b0 R w g x sm qvs bm asc f B k q v Bo pre T u m l rw') {w' : World} {v' : Value} {s : ByteArray} (ho : Own .u8 5 w' Bo v' (pre ++ byI T ++ byI s)) (hg : w.grownBy w' v.ownBlock) (hn : v'.ownBlock = v.ownBlock ∨ ∃ y, v'.ownBlock = some y ∧ w.heap.size ≤ y) : Jn wb b0 R w' g x sm qvs bm asc f B k q v' Bo pre (T ++ s) u m l rw' := by
  have hmg := h.cx.mg
  have hwm := h.cx.wm
  have hge : ∀ o, v.ownBlock = some o → bm ≤ o := fun o e => Nat.le_trans h.bo (h.own.lt o e).1
  obtain ⟨n, D, m1, m2, m3⟩ := h.bu.mp
  have hbl : ∀ i, bfp g x sm qvs bm i → w'.heap[i]? = w.heap[i]? := fun i hi => hg.block i (h.bu.lt i hi).1 (fun e => h.ob i e.symm hi)
  have he : wb.grownBy w' (some R) := ⟨hg.os.trans h.en.os, hg.tape.trans h.en.tape, hg.output.trans h.en.output, Nat.le_trans h.en.size hg.size, fun i hi hn => (hg.block i (Nat.lt_of_lt_of_le hi h.en.size) (fun e => by have := hge i e.symm; omega)).trans (h.en.block i hi hn)⟩
  have hbu : Bu w' g x sm q qvs k.ns bm asc := ⟨⟨(hbl g (.inl rfl)).trans h.bu.cbd.blk, h.bu.cbd.own.eq (fun i hi => hbl i (.inr (.inl hi))), h.cx.tb he⟩, h.bu.ism, h.bu.cov, h.bu.as_, h.bu.qn.eq (fun i hi => hbl i (.inr (.inr (.inl hi)))), h.bu.ql, fun k hk hk' => (h.bu.qd k hk hk').eq (fun i hi => hbl i (.inr (.inr (.inr (.inr ⟨_, List.getElem_mem hk, hi⟩))))), h.bu.qs, h.bu.nm, ⟨n, D, m1.eq (hbl bm (.inr (.inr (.inr (.inl rfl))))), m2, m3⟩, h.bu.bg⟩
  have hbl2 : ∀ (F : Nat → Prop), (∀ o, v.ownBlock = some o → ¬ F o) → (∀ i, F i → i < w.heap.size) → ∀ o, v'.ownBlock = some o → ¬ F o := fun F h1 h2 o ho' hF => by
    rcases hn with e | ⟨y, e, hy⟩
    · exact h1 o (by rw [← e]; exact ho') hF
    · rw [e] at ho'; cases ho'; have := h2 _ hF; omega
  exact ⟨h.cx, he, hbu, h.rf.eq (fun i hi => hg.block i (h.rf.lt i hi) (fun e => h.of i e.symm hi)), h.fn, h.qb, h.nk, h.nm, h.lu, h.la, by rw [byI_app, ← List.append_assoc]; exact ho, h.pl, hbl2 _ h.ob (fun i hi => (h.bu.lt i hi).1), hbl2 _ h.of (fun i hi => h.rf.lt i hi), h.dj, h.e1, h.e2, h.e3, Nat.le_trans h.bs hg.size, h.bB, h.bf, h.bo, Nat.le_trans h.os hg.size, h.lb.gb hg (fun e => h.l3 e.symm), h.bl, h.l1, h.l2, fun e => hbl2 (fun i => i = l) (fun o e1 e2 => by subst e2; exact h.l3 e1) (fun i e => by subst e; exact h.lb.lt) l e rfl⟩
/-- another place is taken -/
theorem Jn.set (h : Jn wb b0 R w g x sm qvs bm asc f B k q v Bo pre T u m l rw') {w' : World} {r2 : Array Value} (hg : w.grownBy w' (some l)) (hb : Blk w' l 69 r2) : Jn wb b0 R w' g x sm qvs bm asc f B k q v Bo pre T u m l r2 := by
  have hbl' := h.bl
  have hmg := h.cx.mg
  have hwm := h.cx.wm
  obtain ⟨n, D, m1, m2, m3⟩ := h.bu.mp
  have hbl : ∀ i, bfp g x sm qvs bm i → w'.heap[i]? = w.heap[i]? := fun i hi => hg.block i (h.bu.lt i hi).1 (fun e => by cases e; exact h.l1 hi)
  have he : wb.grownBy w' (some R) := ⟨hg.os.trans h.en.os, hg.tape.trans h.en.tape, hg.output.trans h.en.output, Nat.le_trans h.en.size hg.size, fun i hi hn => (hg.block i (Nat.lt_of_lt_of_le hi h.en.size) (fun e => by cases e; omega)).trans (h.en.block i hi hn)⟩
  have hbu : Bu w' g x sm q qvs k.ns bm asc := ⟨⟨(hbl g (.inl rfl)).trans h.bu.cbd.blk, h.bu.cbd.own.eq (fun i hi => hbl i (.inr (.inl hi))), h.cx.tb he⟩, h.bu.ism, h.bu.cov, h.bu.as_, h.bu.qn.eq (fun i hi => hbl i (.inr (.inr (.inl hi)))), h.bu.ql, fun k hk hk' => (h.bu.qd k hk hk').eq (fun i hi => hbl i (.inr (.inr (.inr (.inr ⟨_, List.getElem_mem hk, hi⟩))))), h.bu.qs, h.bu.nm, ⟨n, D, m1.eq (hbl bm (.inr (.inr (.inr (.inl rfl))))), m2, m3⟩, h.bu.bg⟩
  exact ⟨h.cx, he, hbu, h.rf.eq (fun i hi => hg.block i (h.rf.lt i hi) (fun e => by cases e; exact h.l2 hi)), h.fn, h.qb, h.nk, h.nm, h.lu, h.la, h.own.gb hg (.inr h.l3), h.pl, h.ob, h.of, h.dj, h.e1, h.e2, h.e3, Nat.le_trans h.bs hg.size, h.bB, h.bf, h.bo, Nat.le_trans h.os hg.size, hb, h.bl, h.l1, h.l2, h.l3⟩
/-- between the builder's step and the reference's -/
theorem Jn.mid (h : Jn wb b0 R w g x sm qvs bm asc f B k q v Bo pre T u m l rw') {w1 : World} {x1 : Cb} {sm1 : Value} {q1 : Pq} {qvs1 : List Value} {ns1 : List ByteArray} (hs : Bs w g x sm qvs bm asc w1 x1 sm1 q1 qvs1 ns1) : Rf w1 f B k q ∧ OutV v u T w1 ∧ B ≤ w1.heap.size ∧ Blk w1 l 69 rw' ∧ l < w1.heap.size :=
  ⟨h.rf.ch hs.ch (fun i hi hF => h.dj i hF hi), h.outv.ch hs.ch h.ob, Nat.le_trans h.bs hs.ch.size, hs.ch.blk h.lb h.l1, Nat.lt_of_lt_of_le h.lb.lt hs.ch.size⟩
/-- the two, a step further -/
theorem Jn.both (h : Jn wb b0 R w g x sm qvs bm asc f B k q v Bo pre T u m l rw') {w1 w2 : World} {x1 : Cb} {sm1 : Value} {q1 : Pq} {qvs1 : List Value} {k1 : Rk} (hs : Bs w g x sm qvs bm asc w1 x1 sm1 q1 qvs1 k1.ns) (hr : Rst w1 f B k w2 k1 q1) {pre1 : List Int} {T1 : ByteArray} {u1 m1 : Nat} (hz : pre1 ++ byI T1 = pre ++ byI T) (hp : pre1.length = u1)
    (hfn : Fno x1.fno q1 k1.ns) (hqb : Qb q1 u1 m1) (hnk : Nok k1.ns m1) (hnm : ∀ s ∈ k1.ns, s ∈ nms) (hlu : x1.lu = (u1 : Nat)) (hla : k1.last = (u1 : Nat)) (he1 : x1.loc = k1.ploc) (he2 : x1.pgl = k1.plen) (he3 : x1.pon = k1.pname) :
    Jn wb b0 R w2 g x1 sm1 qvs1 bm asc f B k1 q1 v Bo pre1 T1 u1 m1 l rw' := by
  have hmg := h.cx.mg
  have hwm := h.cx.wm
  have hRm := h.rn
  have hbge : ∀ i, bfp g x sm qvs bm i → bm ≤ i := fun i hi => (h.bu.lt i hi).2
  have hfge := h.rf.ge h.bB h.bf
  have en1 : wb.grownBy w1 (some R) := ⟨hs.ch.os.trans h.en.os, hs.ch.tape.trans h.en.tape, hs.ch.output.trans h.en.output, Nat.le_trans h.en.size hs.ch.size, fun i hi hn => (hs.ch.block i (Nat.lt_of_lt_of_le hi h.en.size) (fun e => by have := hbge i e; omega)).trans (h.en.block i hi hn)⟩
  have en2 : wb.grownBy w2 (some R) := ⟨hr.ch.os.trans en1.os, hr.ch.tape.trans en1.tape, hr.ch.output.trans en1.output, Nat.le_trans en1.size hr.ch.size, fun i hi hn => (hr.ch.block i (Nat.lt_of_lt_of_le hi en1.size) (fun e => by have := hfge i e; omega)).trans (en1.block i hi hn)⟩
  -- the builder's new blocks and the reference's old ones are apart
  have hd1 : ∀ i, bfp g x1 sm1 qvs1 bm i → ¬ k.fp f i := fun i hi hf => by
    rcases hs.nw i hi with e | e
    · exact h.dj i e hf
    · have := h.rf.lt i hf; omega
  have hd2 : ∀ i, bfp g x1 sm1 qvs1 bm i → ¬ k1.fp f i := fun i hi hf => by
    rcases hr.nw i hf with e | e
    · exact hd1 i hi e
    · have := (hs.bu.lt i hi).1; omega
  have hbl : ∀ i, bfp g x1 sm1 qvs1 bm i → w2.heap[i]? = w1.heap[i]? := fun i hi => hr.ch.block i (hs.bu.lt i hi).1 (hd1 i hi)
  obtain ⟨n, D, p1, p2, p3⟩ := hs.bu.mp
  have hbu : Bu w2 g x1 sm1 q1 qvs1 k1.ns bm asc := ⟨⟨(hbl g (.inl rfl)).trans hs.bu.cbd.blk, hs.bu.cbd.own.eq (fun i hi => hbl i (.inr (.inl hi))), h.cx.tb en2⟩, hs.bu.ism, hs.bu.cov, hs.bu.as_, hs.bu.qn.eq (fun i hi => hbl i (.inr (.inr (.inl hi)))), hs.bu.ql, fun k hk hk' => (hs.bu.qd k hk hk').eq (fun i hi => hbl i (.inr (.inr (.inr (.inr ⟨_, List.getElem_mem hk, hi⟩))))), hs.bu.qs, hs.bu.nm, ⟨n, D, p1.eq (hbl bm (.inr (.inr (.inr (.inl rfl))))), p2, p3⟩, hs.bu.bg⟩
  have hap : ∀ o, o < w.heap.size → ¬ bfp g x sm qvs bm o → ¬ k.fp f o → ¬ bfp g x1 sm1 qvs1 bm o ∧ ¬ k1.fp f o := fun o hl h1 h2 => ⟨hs.apart h1 hl, fun e => by
    rcases hr.nw o e with e | e
    · exact h2 e
    · have := hs.ch.size; omega⟩
  have hvl : ∀ o, v.ownBlock = some o → o < w.heap.size := fun o e => (h.own.lt o e).2
  refine ⟨h.cx, en2, hbu, hr.rf, hfn, hqb, hnk, hnm, hlu, hla, ?_, hp, fun o e => (hap o (hvl o e) (h.ob o e) (h.of o e)).1, fun o e => (hap o (hvl o e) (h.ob o e) (h.of o e)).2, hd2, he1, he2, he3, ?_, h.bB, h.bf, h.bo, ?_, ?_, h.bl, (hap l h.lb.lt h.l1 h.l2).1, (hap l h.lb.lt h.l1 h.l2).2, h.l3⟩
  · rw [hz]; exact hr.ch.own (hs.ch.own h.own h.ob) h.of
  · exact Nat.le_trans h.bs (Nat.le_trans hs.ch.size hr.ch.size)
  · exact Nat.le_trans h.os (Nat.le_trans hs.ch.size hr.ch.size)
  · exact hr.ch.blk (hs.ch.blk h.lb h.l1) h.l2
end
/-- what stands when the chunk is checked: the reference and the builder agree -/
structure Cs (w : World) (f B : Nat) (k : Rk) (q : Pq) (g : Nat) (x : Cb) (sm : Value) (qvs : List Value) (bm : Nat) (asc : Bool) (u m : Nat) : Prop where
  rf : Rf w f B k q
  bu : Bu w g x sm q qvs k.ns bm asc
  fn : Fno x.fno q k.ns
  qb : Qb q u m
  nm : ∀ s ∈ k.ns, s ∈ nms
  nl : k.ns.length ≤ 1048576
theorem Cs.below {w w' : World} {f B : Nat} {k : Rk} {q : Pq} {g : Nat} {x : Cb} {sm : Value} {qvs : List Value} {bm : Nat} {asc : Bool} {u m : Nat} (h : Cs w f B k q g x sm qvs bm asc u m) (hb : Below w.heap.size w w') : Cs w' f B k q g x sm qvs bm asc u m :=
  ⟨h.rf.eq (fun i hi => hb.block i (h.rf.lt i hi)), h.bu.eq (fun i hi => hb.block i (h.bu.lt i hi).1) (hb.mono (Nat.le_of_lt h.bu.cbd.blk.lt)), h.fn, h.qb, h.nm, h.nl⟩
def run35 (f : Nat) (x : Cb) (sm : Value) (q : Pq) (ign : Bool) : Array Value := #[.pointer (some ⟨f, 0, none⟩), sm, .int .u32 x.fno, x.qn, .int .i64 q.gl, .int .i64 q.gc, .int .i64 0, .int .i64 q.ol, .int .i64 q.oc, .int .i64 q.on, .bool q.hn, .int .i64 q.gcol, .bool ign]
end Go.Proofs.YtfbeeekakfllpaaDoor
