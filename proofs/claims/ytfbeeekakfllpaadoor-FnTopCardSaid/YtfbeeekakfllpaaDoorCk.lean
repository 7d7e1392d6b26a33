/-
  zzCheckChunk. No statement of the seat is proved here.
-/
import Derived.Test.YtfbeeekakfllpaaDoorBn
import Derived.Test.YtfbeeekakfllpaaDoorJt
import Derived.Test.YtfbeeekakfllpaaDoorDc
import Derived.Test.YtfbeeekakfllpaaDoorLe
import Derived.Test.YtfbeeekakfllpaaDoorZq
namespace Go.Proofs.YtfbeeekakfllpaaDoor
open Go.RowKit Go.Maps
set_option linter.unusedVariables false
set_option linter.unusedSimpArgs false
/-- .. and the chunk's box -/
structure Ce (w0 : World) (c : Nat) (cells : Array Value) (wr : World) (f B : Nat) (k : Rk) (q : Pq) (g : Nat) (x : Cb) (sm : Value) (qvs : List Value) (bm : Nat) (asc : Bool) (u m : Nat) : Prop where
  cs : Cs wr f B k q g x sm qvs bm asc u m
  bk : Blk wr c 33 cells
  bel : Below w0.heap.size w0 wr
theorem Ce.step {w0 : World} {c : Nat} {cells : Array Value} {wr w' : World} {f B : Nat} {k : Rk} {q : Pq} {g : Nat} {x : Cb} {sm : Value} {qvs : List Value} {bm : Nat} {asc : Bool} {u m : Nat} (h : Ce w0 c cells wr f B k q g x sm qvs bm asc u m) (hb : Below wr.heap.size wr w') : Ce w0 c cells w' f B k q g x sm qvs bm asc u m :=
  ⟨h.cs.below hb, h.bk.kept hb, h.bel.trans (hb.mono h.bel.size)⟩
theorem rows_le : ∀ (l : List Tk) (r : Rdr) (M : Nat), (∀ x ∈ r.rows, x.length ≤ M) → r.cur.length ≤ M → (∀ x ∈ (l.foldl Rdr.tok r).rows, x.length ≤ M + l.length) ∧ (l.foldl Rdr.tok r).cur.length ≤ M + l.length
  | [], r, M, h, hc => ⟨h, hc⟩
  | .nl :: t, r, M, h, hc => by
    obtain ⟨h1, h2⟩ := rows_le t (r.tok .nl) M (fun x hx => by
      have hx' : x ∈ r.rows ++ [r.cur] := hx
      rw [List.mem_append, List.mem_singleton] at hx'
      rcases hx' with hx' | rfl
      · exact h x hx'
      · exact hc) (Nat.zero_le _)
    exact ⟨fun x hx => by have := h1 x hx; simp; omega, by simp at h2 ⊢; omega⟩
  | .seg ds :: t, r, M, h, hc => by
    obtain ⟨h1, h2⟩ := rows_le t (r.tok (.seg ds)) (M + 1) (fun x hx => by have := h x hx; omega) (by simp [Rdr.tok]; omega)
    exact ⟨fun x hx => by have := h1 x hx; simp; omega, by simp at h2 ⊢; omega⟩
theorem below_gbn {w w' : World} (h : w.grownBy w' none) : Below w.heap.size w w' := (Below.refl _ w).grown h (Nat.le_refl _) (fun k e => by cases e)
theorem below_drewN (w : World) (n : Nat) : Below w.heap.size w (w.drewN n) := below_gbn (gb_drewN w n)
theorem qs_size (s : ByteArray) (asc : Bool) : (qs s asc).size = (qt s asc).length := by
  show (ql s asc).toArray.size = _
  simp [ql]
theorem qs_at (s : ByteArray) (asc : Bool) (j : Nat) (h : j < (qs s asc).size) : (((qs s asc)[j]'h).toNat : Int) = nth (qt s asc) j := by
  have hl : j < (qt s asc).length := by rw [← qs_size]; exact h
  have e : (qs s asc)[j]'h = ((qt s asc)[j]'hl).toNat.toUInt8 := by
    show (ql s asc).toArray[j]'_ = _
    simp [ql]
  rw [e, nth_get _ j hl]
  exact u8_back (qt_range s asc _ (List.getElem_mem hl))
theorem ce_form {w0 : World} {c : Nat} {cells : Array Value} {wr : World} {f B : Nat} {k : Rk} {q : Pq} {g : Nat} {x : Cb} {sm : Value} {qvs : List Value} {bm : Nat} {asc : Bool} {u m : Nat} (h : Ce w0 c cells wr f B k q g x sm qvs bm asc u m) (i : Nat) (hi : i < k.ns.length) (hi' : i < qvs.length) :
    ∃ qg qc bg bc ng nc, x.qn = .slice (some ⟨qg, 0, none⟩) qvs.length qc ∧ qvs[i]'hi' = .slice (some ⟨bg, 0, none⟩) (qs (k.ns[i]'hi) asc).size bc ∧ k.nv = .slice (some ⟨ng, 0, none⟩) k.ns.length nc := by
  obtain ⟨qg, qc, h1, _⟩ := h.cs.bu.qn.at i hi'
  obtain ⟨ng, nc, h2, _⟩ := h.cs.rf.nms.at i (by simpa using hi)
  obtain ⟨ao, cap, h3, _, _, h4⟩ := (h.cs.bu.qd i hi' hi).form
  rw [List.length_map] at h2
  rcases h4 with ⟨_, h5, _⟩ | ⟨bg, rfl, _⟩
  · exact absurd h5 (by simp [qt])
  · exact ⟨qg, qc, bg, cap, ng, nc, h1, by rw [h3, qs_size], h2⟩
theorem ce_name {w0 : World} {c : Nat} {cells : Array Value} {wr : World} {f B : Nat} {k : Rk} {q : Pq} {g : Nat} {x : Cb} {sm : Value} {qvs : List Value} {bm : Nat} {asc : Bool} {u m : Nat} (h : Ce w0 c cells wr f B k q g x sm qvs bm asc u m) (i : Nat) (hi : i < k.ns.length) (hi' : i < qvs.length) {qg qc bg bc ng nc : Nat} (hq : x.qn = .slice (some ⟨qg, 0, none⟩) qvs.length qc) (hv : qvs[i]'hi' = .slice (some ⟨bg, 0, none⟩) (qs (k.ns[i]'hi) asc).size bc) (hn : k.nv = .slice (some ⟨ng, 0, none⟩) k.ns.length nc) :
    wr.cell? ⟨qg, i, none⟩ = some (.slice (some ⟨bg, 0, none⟩) (qs (k.ns[i]'hi) asc).size bc) ∧ wr.cell? ⟨ng, i, none⟩ = some (.string (k.ns[i]'hi)) ∧ (convert 22 9 (.slice (some ⟨bg, 0, none⟩) (qs (k.ns[i]'hi) asc).size bc)).run Tryd.prog wr = .ok (.string (qs (k.ns[i]'hi) asc)) wr ∧ wr.cell? ⟨f, 1, none⟩ = some (.slice (some ⟨ng, 0, none⟩) k.ns.length nc) ∧ wr.cell? ⟨c, 2, none⟩ = cells[2]? ∧ f < wr.heap.size ∧ c < wr.heap.size := by
  obtain ⟨qg', qc', h1, _, _, h1c, _⟩ := h.cs.bu.qn.at i hi'
  obtain ⟨ng', nc', h2, _, _, h2c, _⟩ := h.cs.rf.nms.at i (by simpa using hi)
  rw [hq] at h1; cases h1
  rw [hn] at h2
  simp only [List.length_map] at h2
  cases h2
  have e1 := h.cs.rf.blk.cell 1
  simp only [Rk.cells] at e1
  rw [hn] at e1
  refine ⟨by rw [h1c, hv], by rw [h2c]; simp, ?_, e1, h.bk.cell 2, h.cs.rf.blk.lt, h.bk.lt⟩
  refine Lib.run_convert_whole (P := Tryd.prog) wr 22 5 9 Tryd.underlying22 Tryd.underlying5 Tryd.underlying9 bg 0 _ (fun j hj => ?_) bc
  obtain ⟨ao, cap, h3, h4, _, _⟩ := (h.cs.bu.qd i hi' hi).form
  rw [hv] at h3
  injection h3 with h3a _ _
  subst h3a
  obtain ⟨b', off', hx, _, hc⟩ := h4.at (i := j) (by rw [← qs_size]; exact hj)
  cases hx
  rw [hc, qs_at]
theorem ce_facts {w0 : World} {c : Nat} {a0 a1 a2 a3 a4 a5 a6 a7 a8 a9 a10 a11 : Value} {wr : World} {f B : Nat} {k : Rk} {q : Pq} {g : Nat} {x : Cb} {sm : Value} {qvs : List Value} {bm : Nat} {asc : Bool} {u m : Nat} (h : Ce w0 c #[a0, a1, a2, a3, a4, a5, a6, a7, a8, a9, a10, a11] wr f B k q g x sm qvs bm asc u m) :
    (wr.cell? ⟨c, 0, none⟩ = some a0 ∧ wr.cell? ⟨c, 1, none⟩ = some a1 ∧ wr.cell? ⟨c, 3, none⟩ = some a3 ∧ wr.cell? ⟨c, 4, none⟩ = some a4 ∧ wr.cell? ⟨c, 5, none⟩ = some a5 ∧ wr.cell? ⟨c, 6, none⟩ = some a6 ∧ wr.cell? ⟨c, 7, none⟩ = some a7 ∧ wr.cell? ⟨c, 8, none⟩ = some a8 ∧ wr.cell? ⟨c, 9, none⟩ = some a9 ∧ wr.cell? ⟨c, 10, none⟩ = some a10 ∧ c < wr.heap.size) ∧ wr.cell? ⟨f, 1, none⟩ = some k.nv ∧ wr.cell? ⟨f, 7, none⟩ = some (.int .i64 q.gl) ∧ wr.cell? ⟨f, 8, none⟩ = some (.int .i64 q.gcol) ∧ wr.cell? ⟨f, 9, none⟩ = some (.int .i64 q.gc) ∧ wr.cell? ⟨f, 10, none⟩ = some (.int .i64 q.ol) ∧ wr.cell? ⟨f, 11, none⟩ = some (.int .i64 q.oc) ∧ wr.cell? ⟨f, 12, none⟩ = some (.int .i64 q.on) ∧ wr.cell? ⟨f, 13, none⟩ = some (.bool q.hn) ∧ f < wr.heap.size :=
  ⟨⟨h.bk.cell 0, h.bk.cell 1, h.bk.cell 3, h.bk.cell 4, h.bk.cell 5, h.bk.cell 6, h.bk.cell 7, h.bk.cell 8, h.bk.cell 9, h.bk.cell 10, h.bk.lt⟩, h.cs.rf.blk.cell 1, h.cs.rf.blk.cell 7, h.cs.rf.blk.cell 8, h.cs.rf.blk.cell 9, h.cs.rf.blk.cell 10, h.cs.rf.blk.cell 11, h.cs.rf.blk.cell 12, h.cs.rf.blk.cell 13, h.cs.rf.blk.lt⟩
/-- .. and the end state's box -/
structure Cg (w0 : World) (c : Nat) (cells : Array Value) (wr : World) (f B : Nat) (k : Rk) (q : Pq) (g : Nat) (x : Cb) (sm : Value) (qvs : List Value) (bm : Nat) (asc : Bool) (u m : Nat) (b : Nat) : Prop where
  ce : Ce w0 c cells wr f B k q g x sm qvs bm asc u m
  bb : Blk wr b 31 #[.int .i64 q.gl, .int .i64 q.gc, .int .i64 0, .int .i64 q.ol, .int .i64 q.oc, .int .i64 q.on, .bool q.hn]
theorem Cg.step {w0 : World} {c : Nat} {cells : Array Value} {wr w' : World} {f B : Nat} {k : Rk} {q : Pq} {g : Nat} {x : Cb} {sm : Value} {qvs : List Value} {bm : Nat} {asc : Bool} {u m b : Nat} (h : Cg w0 c cells wr f B k q g x sm qvs bm asc u m b) (hb : Below wr.heap.size wr w') : Cg w0 c cells w' f B k q g x sm qvs bm asc u m b :=
  ⟨h.ce.step hb, h.bb.kept hb⟩
theorem Cg.facts {w0 : World} {c : Nat} {cells : Array Value} {wr : World} {f B : Nat} {k : Rk} {q : Pq} {g : Nat} {x : Cb} {sm : Value} {qvs : List Value} {bm : Nat} {asc : Bool} {u m b : Nat} (h : Cg w0 c cells wr f B k q g x sm qvs bm asc u m b) :
    (wr.cell? ⟨b, 0, none⟩ = some (.int .i64 q.gl) ∧ wr.cell? ⟨b, 1, none⟩ = some (.int .i64 q.gc) ∧ wr.cell? ⟨b, 2, none⟩ = some (.int .i64 0) ∧ wr.cell? ⟨b, 3, none⟩ = some (.int .i64 q.ol) ∧ wr.cell? ⟨b, 4, none⟩ = some (.int .i64 q.oc) ∧ wr.cell? ⟨b, 5, none⟩ = some (.int .i64 q.on) ∧ wr.cell? ⟨b, 6, none⟩ = some (.bool q.hn) ∧ b < wr.heap.size) ∧ wr.cell? ⟨f, 7, none⟩ = some (.int .i64 q.gl) ∧ wr.cell? ⟨f, 9, none⟩ = some (.int .i64 q.gc) ∧ wr.cell? ⟨f, 10, none⟩ = some (.int .i64 q.ol) ∧ wr.cell? ⟨f, 11, none⟩ = some (.int .i64 q.oc) ∧ wr.cell? ⟨f, 12, none⟩ = some (.int .i64 q.on) ∧ wr.cell? ⟨f, 13, none⟩ = some (.bool q.hn) ∧ f < wr.heap.size :=
  ⟨⟨h.bb.cell 0, h.bb.cell 1, h.bb.cell 2, h.bb.cell 3, h.bb.cell 4, h.bb.cell 5, h.bb.cell 6, h.bb.lt⟩, h.ce.cs.rf.blk.cell 7, h.ce.cs.rf.blk.cell 9, h.ce.cs.rf.blk.cell 10, h.ce.cs.rf.blk.cell 11, h.ce.cs.rf.blk.cell 12, h.ce.cs.rf.blk.cell 13, h.ce.cs.rf.blk.lt⟩
set_option maxRecDepth 100000 in
set_option maxHeartbeats 40000000 in
theorem chk_any (f B : Nat) (k : Rk) (q : Pq) (g : Nat) (x : Cb) (sm : Value) (qvs : List Value) (bm : Nat) (asc : Bool) (u m : Nat) (w : World) (h : Cs w f B k q g x sm qvs bm asc u m) (hu : u ≤ 4194304) (hm : m ≤ 1048576) :
    Calls Tryd.prog 5 #[.agg (run35 f x sm q (decide (sgs q.toks = 0))), .bool asc] w fun e w' => e = .returned (.bool true) ∧ Below w.heap.size w w' := by
  obtain ⟨sao, scap, hsm, hsin, hscap, _⟩ := h.bu.cbd.own.form
  obtain ⟨N, hN⟩ : ∃ N, (txt false q.toks).length = N := ⟨_, rfl⟩
  have hsm' : sm = .slice sao N scap := by rw [← hN]; exact hsm
  have hsin' : In .u8 w sao (txt false q.toks) := hsin
  have hNl : N ≤ 1073741000 := by have := txt_len q.toks false h.qb.ok.wk; have := h.qb.len; omega
  obtain ⟨qao, qcap, hqn, _⟩ := h.bu.qn.form
  obtain ⟨K, hK⟩ : ∃ K, k.ns.length = K := ⟨_, rfl⟩
  have hql : (qvs.map fun x => [x]).length = K := by rw [List.length_map, h.bu.ql, hK]
  rw [hql] at hqn
  obtain ⟨nao, ncap, hnv, _⟩ := h.rf.nms.form
  have hnl : ((k.ns.map Value.string).map fun x => [x]).length = K := by simp [hK]
  rw [hnl] at hnv
  have hKl : K ≤ 1048576 := by rw [← hK]; exact h.nl
  have HH := Lib.hid (And.intro h (And.intro hsm' (And.intro hsin' (And.intro hN (And.intro hqn (And.intro hnv (And.intro hK (And.intro hql hnl))))))))
  unfold run35
  rw [hsm', hqn]
  clear h hsm hsm' hsin hsin' hscap hqn hnv hN hK hql hnl
  go_enter Tryd.func5, Tryd.ntmps5
  go_upto_region 3 with fail
  obtain ⟨c, hc⟩ : ∃ c, w.heap.size + 1 = c := ⟨_, rfl⟩
  rw [hc]
  obtain ⟨cells, hcells⟩ : ∃ cells : Array Value, #[.slice sao N scap, .int .u32 x.fno, .slice qao K qcap, .int .i64 q.gl, .int .i64 q.gc, .int .i64 0, .int .i64 q.ol, .int .i64 q.oc, .int .i64 q.on, .bool q.hn, .int .i64 q.gcol, .bool (decide (sgs q.toks = 0))] = cells := ⟨_, rfl⟩
  obtain ⟨W, hW⟩ : ∃ W, ((w.alloc (.cells #[.pointer (some ⟨f, 0, none⟩), .slice sao N scap, .int .u32 x.fno, .slice qao K qcap, .int .i64 q.gl, .int .i64 q.gc, .int .i64 0, .int .i64 q.ol, .int .i64 q.oc, .int .i64 q.on, .bool q.hn, .int .i64 q.gcol, .bool (decide (sgs q.toks = 0))] 35)).alloc (.cells #[.slice sao N scap, .int .u32 x.fno, .slice qao K qcap, .int .i64 q.gl, .int .i64 q.gc, .int .i64 0, .int .i64 q.ol, .int .i64 q.oc, .int .i64 q.on, .bool q.hn, .int .i64 q.gcol, .bool (decide (sgs q.toks = 0))] 33)) = W := ⟨_, rfl⟩
  have hbel : Below w.heap.size w W := by rw [← hW]; exact ((Below.refl _ w).alloc (Nat.le_refl _) _).alloc (by simp) _
  have hbk : Blk W c 33 cells := by
    rw [← hW, ← hc, ← hcells]
    have := Blk.new (w.alloc (.cells #[.pointer (some ⟨f, 0, none⟩), .slice sao N scap, .int .u32 x.fno, .slice qao K qcap, .int .i64 q.gl, .int .i64 q.gc, .int .i64 0, .int .i64 q.ol, .int .i64 q.oc, .int .i64 q.on, .bool q.hn, .int .i64 q.gcol, .bool (decide (sgs q.toks = 0))] 35)) 33 #[.slice sao N scap, .int .u32 x.fno, .slice qao K qcap, .int .i64 q.gl, .int .i64 q.gc, .int .i64 0, .int .i64 q.ol, .int .i64 q.oc, .int .i64 q.on, .bool q.hn, .int .i64 q.gcol, .bool (decide (sgs q.toks = 0))]
    simpa using this
  have HE : Hid (Ce w c cells W f B k q g x sm qvs bm asc u m ∧ In .u8 W sao (txt false q.toks)) := Lib.hid ⟨⟨HH.out.1.below hbel, hbk, hbel⟩, HH.out.2.2.1.kept hbel⟩
  have HCL := Lib.hid hcells
  have c0 := hbk.cell 0
  rw [← hcells] at c0
  simp at c0
  have hcl := hbk.lt
  rw [hW]
  clear hW hbel hbk hcells hc
  go_upto_region 4 with (go_at_call 19; (refine (dec_any sao scap N (txt false q.toks) q.toks q.rows q.cur W HH.out.2.2.2.1 HE.out.2 (by omega) rfl HH.out.1.qb.bt (by rw [HH.out.1.qb.ok.rd]; exact ⟨rfl, rfl⟩) (by have := HH.out.1.qb.len; omega)).mono ?_; rintro e w1 ⟨v, cvs, lv, rfl, hl1, hb1⟩; have H1 := Lib.hid (And.intro (HE.out.1.step hb1) hl1.lv); clear hl1 hb1))
  have e0 := H1.out.1.cs.rf.blk.cell 0
  have hfl := H1.out.1.cs.rf.blk.lt
  simp only [Rk.cells] at e0
  clear c0 hcl
  have HRL : Hid ((q.rows ++ [q.cur]).length ≤ 33554432 ∧ ∀ y ∈ q.rows ++ [q.cur], y.length ≤ 33554432) := Lib.hid (by
    have h1 := HH.out.1.qb.rows
    have h2 := rows_le q.toks rd0 0 (fun x hx => absurd hx (by simp [rd0])) (Nat.zero_le _)
    have h3 := HH.out.1.qb.ok.rd
    unfold rdOf at h3
    rw [h3] at h2
    have h4 := HH.out.1.qb.len
    refine ⟨by simp; omega, fun y hy => ?_⟩
    rw [List.mem_append, List.mem_singleton] at hy
    rcases hy with hy | rfl
    · have : y.length ≤ 0 + q.toks.length := h2.1 y hy
      omega
    · have : q.cur.length ≤ 0 + q.toks.length := h2.2
      omega)
  go_cut [35] (fun y wx => y = .bool false ∧ ∃ n2, wx = w1.drewN n2)
  case first =>
    as_aux_lemma =>
      go_wp2_with (go_at_call 20; (refine (le_any v k.v (q.rows ++ [q.cur]) _ H1.out.2 H1.out.1.cs.rf.lns.lv HRL.out.1 HRL.out.2).mono ?_; rintro e w2 ⟨rfl, n2, rfl⟩))
      go_meet
      exact ⟨rfl, n2, rfl⟩
  case rest =>
  obtain ⟨rfl, n2, hwx⟩ := hcut
  have HE2 : Hid (Ce w c cells wc f B k q g x sm qvs bm asc u m) := Lib.hid (by rw [hwx]; exact H1.out.1.step (below_drewN _ _))
  clear hwx e0 hfl
  have e1 := HE2.out.cs.rf.blk.cell 1
  have hfl := HE2.out.cs.rf.blk.lt
  have c2 := HE2.out.bk.cell 2
  have hcl := HE2.out.bk.lt
  simp only [Rk.cells] at e1
  rw [← HCL.out] at c2
  have e1' : wc.cell? ⟨f, 1, none⟩ = some (.slice nao K ncap) := by rw [← HH.out.2.2.2.2.2.1]; exact e1
  simp at c2
  clear e1
  go_upto_region 6 with fail
  go_quiet (fail)
  have HE3 : Hid (Ce w c cells (wc.drewN nq) f B k q g x sm qvs bm asc u m) := Lib.hid (HE2.out.step (below_drewN _ _))
  obtain ⟨W3, hW3⟩ : ∃ W3, wc.drewN nq = W3 := ⟨_, rfl⟩
  have e1 : W3.cell? ⟨f, 1, none⟩ = some (.slice nao K ncap) := by rw [← hW3]; exact e1'
  have hfl3 : f < W3.heap.size := by rw [← hW3]; exact hfl
  rw [hW3] at HE3 ⊢
  clear hW3 e1' c2 hfl hcl
  go_wp2_with fail
  go_loopg [50] K (fun kk y wx => ∃ i : Nat, i ≤ K ∧ K - i ≤ kk ∧ y = .int .i64 i ∧ Hid (Ce w c cells wx f B k q g x sm qvs bm asc u m))
  case atStart => exact ⟨0, Nat.zero_le _, by omega, rfl, HE3⟩
  case round =>
    obtain ⟨i, hi, hik, rfl, HER⟩ := hrel
    rcases (show i = K ∨ i < K by omega) with rfl | hlt
    · have HE4 := HER
      clear HER e1 hfl3
      have c11 := HE4.out.bk.cell 11
      have hcl := HE4.out.bk.lt
      have f15 := HE4.out.cs.rf.blk.cell 15
      have hfl := HE4.out.cs.rf.blk.lt
      rw [← HCL.out] at c11
      simp only [Rk.cells] at f15
      simp at c11 f15
      obtain ⟨sg, hsg⟩ : ∃ sg, sgs q.toks = sg := ⟨_, rfl⟩
      rw [hsg] at c11 f15
      clear hsg
      go_upto_region 14 with fail
      go_cut [77] (fun y wx => y = .bool false ∧ ∃ n4, wx = wr.drewN n4)
      case first =>
        as_aux_lemma =>
          rcases Nat.eq_zero_or_pos sg with rfl | hpos
          · simp only [decide_true] at c11
            go_quiet (fail)
            go_wp2_with fail
            go_meet
            exact ⟨rfl, _, rfl⟩
          · have hne : ¬ sg = 0 := by omega
            have hd : ((sg : Int) == 0) = false := beq_eq_false_iff_ne.2 (by omega)
            simp only [hne, decide_false] at c11
            clear hne
            go_quiet (fail)
            go_wp2_with fail
            go_meet
            exact ⟨rfl, _, rfl⟩
      case rest =>
      obtain ⟨rfl, n4, hwx⟩ := hcut
      have HE5 : Hid (Ce w c cells wc f B k q g x sm qvs bm asc u m) := Lib.hid (by rw [hwx]; exact HE4.out.step (below_drewN _ _))
      clear hwx c11 hcl f15 hfl
      have HEF : Hid (∀ wy, Ce w c cells wy f B k q g x sm qvs bm asc u m → Ce w c #[.slice sao N scap, .int .u32 x.fno, .slice qao i qcap, .int .i64 q.gl, .int .i64 q.gc, .int .i64 0, .int .i64 q.ol, .int .i64 q.oc, .int .i64 q.on, .bool q.hn, .int .i64 q.gcol, .bool (decide (sgs q.toks = 0))] wy f B k q g x sm qvs bm asc u m) := Lib.hid (fun wy hy => by rw [HCL.out]; exact hy)
      obtain ⟨⟨c0, c1, c3, c4, c5, c6, c7, c8, c9, c10, hcl⟩, f1, f7, f8, f9, f10, f11, f12, f13, hfl⟩ := ce_facts (HEF.out _ HE5.out)
      go_upto_region 16 with fail
      go_cut [84] (fun y wx => y = .bool false ∧ ∃ n4, wx = wc.drewN n4)
      case first =>
        as_aux_lemma =>
          go_quiet (fail)
          go_wp2_with fail
          go_meet
          exact ⟨by simp, _, rfl⟩
      case rest =>
      obtain ⟨rfl, n6, hwx⟩ := hcut
      clear c0 c1 c3 c4 c5 c6 c7 c8 c9 c10 hcl f1 f7 f8 f9 f10 f11 f12 f13 hfl
      have HE6 := Lib.hid (HE5.out.step (below_drewN _ n6))
      rw [← hwx] at HE6
      clear hwx
      obtain ⟨⟨c0, c1, c3, c4, c5, c6, c7, c8, c9, c10, hcl⟩, f1, f7, f8, f9, f10, f11, f12, f13, hfl⟩ := ce_facts (HEF.out _ HE6.out)
      obtain ⟨b, hb⟩ : ∃ b, wc.heap.size = b := ⟨_, rfl⟩
      go_upto_region 19 with fail
      obtain ⟨W6, hW6⟩ : ∃ W6, wc.alloc (.cells #[.int .i64 q.gl, .int .i64 q.gc, .int .i64 0, .int .i64 q.ol, .int .i64 q.oc, .int .i64 q.on, .bool q.hn] 31) = W6 := ⟨_, rfl⟩
      have HG0 : Hid (Cg w c cells W6 f B k q g x sm qvs bm asc u m b) := Lib.hid ⟨by rw [← hW6]; exact HE6.out.step (below_gbn (World.grownBy_alloc _ _ _)), by rw [← hW6, ← hb]; exact Blk.new wc 31 _⟩
      rw [hW6]
      clear hW6 hb c0 c1 c3 c4 c5 c6 c7 c8 c9 c10 hcl f1 f7 f8 f9 f10 f11 f12 f13 hfl
      obtain ⟨⟨b0, b1, b2, b3, b4, b5, b6, hbl⟩, g7, g9, g10, g11, g12, g13, hfl⟩ := HG0.out.facts
      go_upto_region 19 with fail
      go_cut [107] (fun y wx => y = .bool false ∧ ∃ n4, wx = W6.drewN n4)
      case first =>
        as_aux_lemma =>
          go_quiet (fail)
          go_wp2_with fail
          go_meet
          exact ⟨by simp, _, rfl⟩
      case rest =>
      obtain ⟨rfl, nn, hwx⟩ := hcut
      have HG1 := Lib.hid (HG0.out.step (below_drewN _ nn))
      rw [← hwx] at HG1
      clear hwx b0 b1 b2 b3 b4 b5 b6 hbl g7 g9 g10 g11 g12 g13 hfl
      obtain ⟨⟨b0, b1, b2, b3, b4, b5, b6, hbl⟩, g7, g9, g10, g11, g12, g13, hfl⟩ := HG1.out.facts
      go_upto_region 21 with fail
      go_cut [123] (fun y wx => y = .bool false ∧ ∃ n4, wx = wc.drewN n4)
      case first =>
        as_aux_lemma =>
          go_quiet (fail)
          go_wp2_with fail
          go_meet
          exact ⟨by simp, _, rfl⟩
      case rest =>
      obtain ⟨rfl, nn, hwx⟩ := hcut
      have HG2 := Lib.hid (HG1.out.step (below_drewN _ nn))
      rw [← hwx] at HG2
      clear hwx b0 b1 b2 b3 b4 b5 b6 hbl g7 g9 g10 g11 g12 g13 hfl
      obtain ⟨⟨b0, b1, b2, b3, b4, b5, b6, hbl⟩, g7, g9, g10, g11, g12, g13, hfl⟩ := HG2.out.facts
      go_upto_region 23 with fail
      go_cut [139] (fun y wx => y = .bool false ∧ ∃ n4, wx = wc.drewN n4)
      case first =>
        as_aux_lemma =>
          go_quiet (fail)
          go_wp2_with fail
          go_meet
          exact ⟨by simp, _, rfl⟩
      case rest =>
      obtain ⟨rfl, nn, hwx⟩ := hcut
      have HG3 := Lib.hid (HG2.out.step (below_drewN _ nn))
      rw [← hwx] at HG3
      clear hwx b0 b1 b2 b3 b4 b5 b6 hbl g7 g9 g10 g11 g12 g13 hfl
      have HC25 : Hid (∀ wy, Ce w c cells wy f B k q g x sm qvs bm asc u m → wy.cell? ⟨c, 0, none⟩ = some (.slice sao N scap) ∧ wy.cell? ⟨c, 1, none⟩ = some (.int .u32 x.fno) ∧ wy.cell? ⟨f, 1, none⟩ = some (.slice nao i ncap) ∧ c < wy.heap.size ∧ f < wy.heap.size) := Lib.hid (fun wy hy => by
        obtain ⟨⟨c0, c1, _, _, _, _, _, _, _, _, hcl⟩, f1, _, _, _, _, _, _, _, hfl⟩ := ce_facts (HEF.out _ hy)
        rw [HH.out.2.2.2.2.2.1] at f1
        exact ⟨c0, c1, f1, hcl, hfl⟩)
      have HF := HG3.out.ce.cs.fn
      have HKN := HH.out.2.2.2.2.2.2.1
      have HIN := Lib.hid (And.intro HH.out.2.1 HH.out.2.2.2.1)
      obtain ⟨fz, hfz⟩ : ∃ z, x.fno = z := ⟨_, rfl⟩
      rw [hfz] at HC25 HF
      clear hfz
      rcases HF with ⟨hns, rfl, hon⟩ | ⟨hns, p, rfl, hpl, hp65⟩
      · obtain rfl : i = 0 := by rw [← HKN, hns]; rfl
        clear hns HKN hon
        obtain ⟨c0, c1, f1, hcl, hfl⟩ := HC25.out wc HG3.out.ce
        go_upto_region 25 with fail
        go_cut [150] (fun y wx => y = .bool false ∧ Hid (Ce w c cells wx f B k q g x sm qvs bm asc u m))
        case first =>
          as_aux_lemma =>
            go_region_held3 (fun w' => w'.cell? ⟨c, 1, none⟩ = some (.int .u32 0) ∧ w'.cell? ⟨f, 1, none⟩ = some (.slice nao 0 ncap)) (first | go_keep | exact ⟨d1, d2⟩) (first
              | (go_at_call 22; (refine (valid_any 0 wc.drew).mono ?_; rintro e w5 ⟨rfl, hb5⟩; have HE7 := Lib.hid (HG3.out.ce.step ((below_gbn (gb_drew (gb_refl _ none))).trans ((below_gbn hb5).mono (by simp)))); obtain ⟨_, d1, d2, _, _⟩ := HC25.out _ HE7.out; clear hb5)))
            all_goals
              go_wp2_with fail
              go_meet
              exact ⟨by simp, HE7⟩
        case rest =>
        obtain ⟨rfl, HE7⟩ := hcut
        clear c0 c1 f1 hcl hfl
        obtain ⟨c0, c1, f1, hcl, hfl⟩ := HC25.out _ HE7.out
        go_upto_region 27 with fail
        go_wp2_with (go_at_call 22; (refine (valid_any 0 _).mono ?_; rintro e w8 ⟨rfl, hb8⟩; have HE8 := Lib.hid (HE7.out.step (below_gbn hb8)); clear hb8))
        go_ret
        exact ⟨rfl, HE8.out.bel⟩
      · have hK0 : i ≠ 0 := by rw [← HKN]; exact fun e => hns (List.eq_nil_of_length_eq_zero e)
        obtain ⟨fz, hfz⟩ : ∃ z : Int, 4294967295 - (p : Int) = z := ⟨_, rfl⟩
        have hpN : p < N := by rw [← HH.out.2.2.2.1]; exact hpl
        have HPP := Lib.hid (And.intro hfz (And.intro hpl hp65))
        have hf0 : (fz == 0) = false := beq_eq_false_iff_ne.2 (by omega)
        have hKp : (0 : Int) < (i : Int) := by omega
        rw [hfz] at HC25
        clear hns HKN hfz hpl hp65 hK0
        obtain ⟨c0, c1, f1, hcl, hfl⟩ := HC25.out wc HG3.out.ce
        go_upto_region 25 with fail
        go_cut [150] (fun y wx => y = .bool false ∧ Hid (Ce w c cells wx f B k q g x sm qvs bm asc u m))
        case first =>
          as_aux_lemma =>
            go_region_held3 (fun w' => w'.cell? ⟨c, 1, none⟩ = some (.int .u32 fz) ∧ w'.cell? ⟨f, 1, none⟩ = some (.slice nao i ncap)) (first | go_keep | exact ⟨d1, d2⟩) (first
              | (go_at_call 22; (refine (valid_any fz wc.drew).mono ?_; rintro e w5 ⟨rfl, hb5⟩; have HE7 := Lib.hid (HG3.out.ce.step ((below_gbn (gb_drew (gb_refl _ none))).trans ((below_gbn hb5).mono (by simp)))); obtain ⟨_, d1, d2, _, _⟩ := HC25.out _ HE7.out; clear hb5)))
            all_goals
              go_wp2_with fail
              go_meet
              exact ⟨by simp; omega, HE7⟩
        case rest =>
        obtain ⟨rfl, HE7⟩ := hcut
        clear c0 c1 f1 hcl hfl
        obtain ⟨c0, c1, f1, hcl, hfl⟩ := HC25.out _ HE7.out
        go_upto_region 27 with fail
        go_cut [154] (fun y wx => y = .bool true ∧ Hid (Ce w c cells wx f B k q g x sm qvs bm asc u m))
        case first =>
          as_aux_lemma =>
            go_wp2_with (go_at_call 22; (refine (valid_any fz _).mono ?_; rintro e w8 ⟨rfl, hb8⟩; have HE8 := Lib.hid (HE7.out.step (below_gbn hb8)); clear hb8))
            go_meet
            exact ⟨by simp [hf0], HE8⟩
        case rest =>
        obtain ⟨rfl, HE8⟩ := hcut
        clear c0 c1 f1 hcl hfl hf0
        obtain ⟨c0, c1, f1, hcl, hfl⟩ := HC25.out wc.drew (HE8.out.step (below_gbn (gb_drew (gb_refl _ _))))
        have HZV : Hid (∀ wy, Ce w c cells wy f B k q g x sm qvs bm asc u m → Calls Tryd.prog 23 #[.slice sao N scap, .int .i64 p] wy (fun e w' => e = .returned (.tuple #[.int .i64 0, .int .i64 (p + (enc 0).length : Nat), .bool true]) ∧ wy = w')) := Lib.hid (fun wy hy => by
          obtain ⟨ao', cp', h1, h2, _⟩ := hy.cs.bu.cbd.own.form
          rw [HIN.out.1, HIN.out.2] at h1
          injection h1 with a1 a2 a3
          subst a1
          refine (zv_any sao scap N (txt false q.toks) p 0 wy HIN.out.2 h2 (by omega) (by unfold Bnd; omega) (fun j hj => ?_)).mono (fun e w' h => ⟨h.1, h.2.symm⟩)
          rw [enc0] at hj ⊢
          simp at hj
          subst hj
          exact ⟨HPP.out.2.1, HPP.out.2.2⟩)
        have hp1 : (p : Int) ≤ 1073741000 := by omega
        have hcv : IntKind.i64.wrap (p : Int) = (p : Int) := by rw [IntKind.wrap_i64]; omega
        have hfz2 : fz = 4294967295 - (p : Int) := HPP.out.1.symm
        have HGI : Hid (∀ wy, Calls Tryd.prog 24 #[.agg #[.int .u32 fz]] wy (fun e w' => e = .returned (.int .u32 p) ∧ wy.grownBy w' none)) := Lib.hid (fun wy => by rw [hfz2]; exact geti_any p (by omega) (by omega) wy)
        clear hfz2
        clear c0 c1 hcl
        obtain ⟨c0, c1, _, hcl, _⟩ := HC25.out wc HE8.out
        go_upto_region 28 with fail
        go_cut [11, 13] (fun y11 y13 wx => y11 = .int .i64 0 ∧ y13 = .bool true ∧ Hid (Ce w c cells wx f B k q g x sm qvs bm asc u m))
        case first =>
          as_aux_lemma =>
            go_region_held3 (fun w' => w'.cell? ⟨c, 0, none⟩ = some (.slice sao N scap) ∧ w'.cell? ⟨c, 1, none⟩ = some (.int .u32 fz)) (first | go_keep | exact ⟨d0, d1⟩) (first
              | (go_at_call 24; (refine (HGI.out wc.drew).mono ?_; rintro e w5 ⟨rfl, hb5⟩; have HE9 := Lib.hid (HE8.out.step ((below_gbn (gb_drew (gb_refl _ none))).trans ((below_gbn hb5).mono (by simp)))); obtain ⟨d0, d1, d2, d3, d4⟩ := HC25.out _ HE9.out; clear hb5 d2 d3 d4))
              | (go_at_call 23; (refine (HZV.out _ HE9.out).mono ?_; rintro e w6 ⟨rfl, rfl⟩)))
            all_goals
              go_wp2_with fail
              go_meet
              exact ⟨rfl, rfl, HE9⟩
        case rest =>
        obtain ⟨rfl, rfl, HE9⟩ := hcut
        clear c0 c1 hcl
        go_wp2_with fail
        go_ret
        exact ⟨rfl, HE9.out.bel⟩
    · have hiN : i < k.ns.length := by have := HH.out.2.2.2.2.2.2.1; omega
      have hiQ : i < qvs.length := by have := HH.out.2.2.2.2.2.2.2.1; simp at this; omega
      obtain ⟨qg, qc, bg, bc, ng, nc, hq, hv, hn⟩ := ce_form HER.out i hiN hiQ
      obtain ⟨nmi, hnmi⟩ : ∃ s, k.ns[i]'hiN = s := ⟨_, rfl⟩
      have hqK : qvs.length = K := by have := HH.out.2.2.2.2.2.2.2.1; simpa using this
      have hnK := HH.out.2.2.2.2.2.2.1
      have HFA : Hid (∀ w', Ce w c cells w' f B k q g x sm qvs bm asc u m → w'.cell? ⟨qg, i, none⟩ = some (.slice (some ⟨bg, 0, none⟩) (qs nmi asc).size bc) ∧ w'.cell? ⟨ng, i, none⟩ = some (.string nmi) ∧ (convert 22 9 (.slice (some ⟨bg, 0, none⟩) (qs nmi asc).size bc)).run Tryd.prog w' = .ok (.string (qs nmi asc)) w' ∧ w'.cell? ⟨f, 1, none⟩ = some (.slice (some ⟨ng, 0, none⟩) K nc) ∧ w'.cell? ⟨c, 2, none⟩ = some (.slice (some ⟨qg, 0, none⟩) K qc) ∧ f < w'.heap.size ∧ c < w'.heap.size) := Lib.hid (fun w' hce => by
        have := ce_name hce i hiN hiQ hq hv hn
        rw [hnmi, hnK] at this
        obtain ⟨a1, a2, a3, a4, a5, a6, a7⟩ := this
        have hcc : cells[2]? = some (.slice qao K qcap) := by rw [← HCL.out]; rfl
        rw [hcc, ← HH.out.2.2.2.2.1, hq, hqK] at a5
        exact ⟨a1, a2, a3, a4, a5, a6, a7⟩)
      have HNM : Hid (nmi ∈ nms) := Lib.hid (by rw [← hnmi]; exact HER.out.cs.nm _ (List.getElem_mem hiN))
      obtain ⟨a1, a2, a3, a4, a5, a6, a7⟩ := HFA.out wr HER.out
      obtain ⟨ns', hns'⟩ : ∃ n, (qs nmi asc).size = n := ⟨_, rfl⟩
      rw [hns'] at HFA a1 a3
      have HFD : Hid (∀ w', Ce w c cells w' f B k q g x sm qvs bm asc u m → w'.cell? ⟨qg, i, none⟩ = some (.slice (some ⟨bg, 0, none⟩) ns' bc) ∧ w'.cell? ⟨ng, i, none⟩ = some (.string nmi) ∧ (convert 22 9 (.slice (some ⟨bg, 0, none⟩) ns' bc)).run Tryd.prog w' = .ok (.string (qs nmi asc)) w' ∧ w'.cell? ⟨f, 1, none⟩ = some (.slice (some ⟨ng, 0, none⟩) K nc) ∧ w'.cell? ⟨c, 2, none⟩ = some (.slice (some ⟨qg, 0, none⟩) K qc)) := Lib.hid (fun w' h => by
        obtain ⟨b1, b2, b3, b4, b5, _, _⟩ := HFA.out w' h
        exact ⟨b1, b2, b3, b4, b5⟩)
      clear hq hv hn hnmi hqK hnK hns' hiN hiQ e1 hfl3
      go_upto_region 11 with fail
      go_cut [68] (fun y wx => y = .bool false ∧ Hid (Ce w c cells wx f B k q g x sm qvs bm asc u m))
      case first =>
        as_aux_lemma =>
          go_region_held3 (fun w' => w'.cell? ⟨qg, i, none⟩ = some (.slice (some ⟨bg, 0, none⟩) ns' bc) ∧ w'.cell? ⟨ng, i, none⟩ = some (.string nmi) ∧ (convert 22 9 (.slice (some ⟨bg, 0, none⟩) ns' bc)).run Tryd.prog w' = .ok (.string (qs nmi asc)) w' ∧ w'.cell? ⟨f, 1, none⟩ = some (.slice (some ⟨ng, 0, none⟩) K nc) ∧ w'.cell? ⟨c, 2, none⟩ = some (.slice (some ⟨qg, 0, none⟩) K qc)) (first | exact HFD.out _ HER.out | exact HFD.out _ (HER.out.step (below_gbn (gb_drew (gb_refl _ _)))) | exact HFD.out _ HE5.out) (first
            | (go_at_call 21; (refine (zq_any nmi asc wr.drew (nms_ok _ HNM.out) (by have := nms_size _ HNM.out; omega)).mono ?_; rintro e w5 ⟨rfl, hb5⟩; have HE5 := Lib.hid (HER.out.step ((below_gbn (gb_drew (gb_refl wr none))).trans hb5)); obtain ⟨d1, d2, d3, d4, d5, d6, d7⟩ := HFA.out _ HE5.out; clear hb5)))
          all_goals
            go_wp2_with fail
            go_meet
            exact ⟨rfl, HE5⟩
      case rest =>
        obtain ⟨rfl, HE5⟩ := hcut
        clear a1 a2 a3 a4 a5 a6 a7
        go_wp2_with fail
        go_roundg (K - (i + 1))
        case measure => omega
        case rel => exact ⟨i + 1, by omega, Nat.le_refl _, by go_num, HE5⟩
end Go.Proofs.YtfbeeekakfllpaaDoor
