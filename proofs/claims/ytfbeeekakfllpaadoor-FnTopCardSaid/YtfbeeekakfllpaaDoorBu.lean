/-
  The chunk builder in memory with its names: what a step keeps. No statement of the seat is proved here.
-/
import Derived.Test.YtfbeeekakfllpaaDoorSa
import Derived.Test.YtfbeeekakfllpaaDoorNk
import Derived.Test.YtfbeeekakfllpaaDoorIq
import Derived.Test.YtfbeeekakfllpaaDoorMk
namespace Go.Proofs.YtfbeeekakfllpaaDoor
open Go.RowKit Go.Maps
set_option linter.unusedVariables false
set_option linter.unusedSimpArgs false
/-- where the first name stands -/
def Fno (fno : Int) (q : Pq) (ns : List ByteArray) : Prop := (ns = [] ∧ fno = 0 ∧ q.on = 0) ∨ (ns ≠ [] ∧ ∃ p : Nat, fno = 4294967295 - (p : Int) ∧ p < (txt false q.toks).length ∧ nth (txt false q.toks) p = 65)
theorem Fno.grow {fno : Int} {q q' : Pq} {ns : List ByteArray} (h : Fno fno q ns) (ex : List Int) (ht : txt false q'.toks = txt false q.toks ++ ex) (ho : q'.on = q.on) : Fno fno q' ns := by
  rcases h with ⟨h1, h2, h3⟩ | ⟨h1, p, h2, h3, h4⟩
  · exact .inl ⟨h1, h2, by rw [ho]; exact h3⟩
  · refine .inr ⟨h1, p, h2, ?_, ?_⟩
    · rw [ht, List.length_append]; omega
    · rw [ht, nth_app_left _ _ _ h3]; exact h4
theorem txt_grow (q : Pq) (l : List Tk) : ∃ ex, txt false (q.toks ++ l) = txt false q.toks ++ ex := ⟨_, txt_app _ _ _⟩
theorem run_grow (T : ByteArray) (q : Pq) : ∀ i, ∃ l, (runQ T q i).toks = q.toks ++ l ∧ (runQ T q i).on = q.on
  | 0 => ⟨[], by simp [runQ], rfl⟩
  | i + 1 => by
    obtain ⟨l, h1, h2⟩ := run_grow T q i
    rw [runQ]
    split
    · unfold stepQ
      split
      · unfold Pq.nl Pq.cover
        split
        · exact ⟨l ++ [.seg ((runQ T q i).ds 0 (runQ T q i).ol (runQ T q i).oc none)] ++ [.nl], by simp [Pq.brk, Pq.app, h1], h2⟩
        · exact ⟨l ++ [.nl], by simp [Pq.brk, h1], h2⟩
      · split
        · exact ⟨l, h1, h2⟩
        · exact ⟨l, h1, h2⟩
    · exact ⟨l, h1, h2⟩
/-- the builder at block g -/
structure Bu (w : World) (g : Nat) (x : Cb) (sm : Value) (q : Pq) (qvs : List Value) (ns : List ByteArray) (bm : Nat) (asc : Bool) : Prop where
  cbd : Cbd w g (up x sm q) (txt false q.toks)
  ism : x.ism = .pointer none
  cov : x.cov = true
  as_ : x.asc = asc
  qn : Own1 22 w (g + 1) x.qn qvs
  ql : qvs.length = ns.length
  qd : ∀ k, (h : k < qvs.length) → (h' : k < ns.length) → Own .u8 5 w (g + 1) (qvs[k]'h) (qt (ns[k]'h') asc)
  qs : ∀ v ∈ qvs, ∀ o, v.ownBlock = some o → sm.ownBlock ≠ some o
  nm : x.nm = .map (some bm)
  mp : ∃ n D, Mp w bm n D ∧ Know D ns ∧ n ≤ ns.length
  bg : bm < g
/-- its blocks -/
def bfp (g : Nat) (x : Cb) (sm : Value) (qvs : List Value) (bm i : Nat) : Prop := i = g ∨ sm.ownBlock = some i ∨ x.qn.ownBlock = some i ∨ i = bm ∨ ∃ v ∈ qvs, v.ownBlock = some i
theorem Bu.lt {w : World} {g : Nat} {x : Cb} {sm : Value} {q : Pq} {qvs : List Value} {ns : List ByteArray} {bm : Nat} {asc : Bool} (h : Bu w g x sm q qvs ns bm asc) : ∀ i, bfp g x sm qvs bm i → i < w.heap.size ∧ bm ≤ i := by
  have hg := h.cbd.blk.lt
  have hb := h.bg
  rintro i (rfl | hi | hi | rfl | ⟨v, hv, hi⟩)
  · exact ⟨hg, by omega⟩
  · have := h.cbd.own.lt i hi; exact ⟨this.2, by omega⟩
  · have := h.qn.lt i hi; exact ⟨this.2, by omega⟩
  · exact ⟨by omega, Nat.le_refl _⟩
  · obtain ⟨k, hk, rfl⟩ := List.getElem_of_mem hv
    have := (h.qd k hk (by rw [← h.ql]; exact hk)).lt i hi
    exact ⟨this.2, by omega⟩
theorem Own.heap {k : IntKind} {e : TypeId} {w : World} {B : Nat} {v : Value} {zs : List Int} (h : Own k e w B v zs) : ∀ g, v.ownBlock = some g → ∃ cur, w.heap[g]? = some (.cells cur e (0, 0)) := by
  intro g hg
  obtain ⟨_, h2⟩ := h
  rcases h2 with ⟨rfl, _⟩ | ⟨g', cap', cur, rfl, hB, hh, _⟩
  · cases hg
  · cases hg; exact ⟨cur, hh⟩
theorem ne_types {w : World} {a b : Value} {ta tb : TypeId} (ha : ∀ g, a.ownBlock = some g → ∃ cur, w.heap[g]? = some (.cells cur ta (0, 0))) (hb : ∀ g, b.ownBlock = some g → ∃ cur, w.heap[g]? = some (.cells cur tb (0, 0))) (ht : ta ≠ tb) : ∀ g, a.ownBlock = some g → b.ownBlock ≠ some g := by
  intro g h1 h2
  obtain ⟨c1, e1⟩ := ha g h1
  obtain ⟨c2, e2⟩ := hb g h2
  rw [e1] at e2; cases e2; exact ht rfl
/-- a world in which the builder's blocks, and all below it, stand as they stood -/
theorem Bu.eq {w w' : World} {g : Nat} {x : Cb} {sm : Value} {q : Pq} {qvs : List Value} {ns : List ByteArray} {bm : Nat} {asc : Bool} (h : Bu w g x sm q qvs ns bm asc) (hb : ∀ i, bfp g x sm qvs bm i → w'.heap[i]? = w.heap[i]?) (ht : Below g w w') : Bu w' g x sm q qvs ns bm asc := by
  obtain ⟨n, D, h1, h2, h3⟩ := h.mp
  exact ⟨⟨(hb g (.inl rfl)).trans h.cbd.blk, h.cbd.own.eq (fun i hi => hb i (.inr (.inl hi))), h.cbd.tab.below ht⟩, h.ism, h.cov, h.as_, h.qn.eq (fun i hi => hb i (.inr (.inr (.inl hi)))), h.ql, fun k hk hk' => (h.qd k hk hk').eq (fun i hi => hb i (.inr (.inr (.inr (.inr ⟨_, List.getElem_mem hk, hi⟩))))), h.qs, h.nm, ⟨n, D, h1.eq (hb bm (.inr (.inr (.inr (.inl rfl))))), h2, h3⟩, h.bg⟩
theorem Bu.ch {w w' : World} {g : Nat} {x : Cb} {sm : Value} {q : Pq} {qvs : List Value} {ns : List ByteArray} {bm : Nat} {asc : Bool} (h : Bu w g x sm q qvs ns bm asc) {F : Nat → Prop} (hc : Ch F w w') (hF : ∀ i, bfp g x sm qvs bm i → ¬ F i) (hg : ∀ i, F i → g ≤ i) : Bu w' g x sm q qvs ns bm asc :=
  h.eq (fun i hi => hc.block i (h.lt i hi).1 (hF i hi)) (hc.to_below (Nat.le_of_lt h.cbd.blk.lt) hg)
theorem Bu.kept {w w' : World} {g : Nat} {x : Cb} {sm : Value} {q : Pq} {qvs : List Value} {ns : List ByteArray} {bm : Nat} {asc : Bool} (h : Bu w g x sm q qvs ns bm asc) (hg : w.grownBy w' none) : Bu w' g x sm q qvs ns bm asc :=
  h.eq (fun i hi => hg.block i (h.lt i hi).1 (by simp)) ((Below.refl _ w).grown hg (Nat.le_of_lt h.cbd.blk.lt) (fun k e => by cases e))
/-- a call on the builder -/
structure Bs (w : World) (g : Nat) (x : Cb) (sm : Value) (qvs : List Value) (bm : Nat) (asc : Bool) (w' : World) (x' : Cb) (sm' : Value) (q' : Pq) (qvs' : List Value) (ns' : List ByteArray) : Prop where
  bu : Bu w' g x' sm' q' qvs' ns' bm asc
  ch : Ch (bfp g x sm qvs bm) w w'
  nw : ∀ i, bfp g x' sm' qvs' bm i → bfp g x sm qvs bm i ∨ w.heap.size ≤ i
theorem Bs.refl {w : World} {g : Nat} {x : Cb} {sm : Value} {q : Pq} {qvs : List Value} {ns : List ByteArray} {bm : Nat} {asc : Bool} (h : Bu w g x sm q qvs ns bm asc) : Bs w g x sm qvs bm asc w x sm q qvs ns := ⟨h, Ch.refl _ _, fun i hi => .inl hi⟩
theorem Bs.trans {a b c : World} {g : Nat} {x x1 x2 : Cb} {sm sm1 sm2 : Value} {q1 q2 : Pq} {qvs qvs1 qvs2 : List Value} {ns1 ns2 : List ByteArray} {bm : Nat} {asc : Bool} (h : Bs a g x sm qvs bm asc b x1 sm1 q1 qvs1 ns1) (k : Bs b g x1 sm1 qvs1 bm asc c x2 sm2 q2 qvs2 ns2) : Bs a g x sm qvs bm asc c x2 sm2 q2 qvs2 ns2 :=
  ⟨k.bu, h.ch.trans k.ch (fun i hi hf => (h.nw i hf).resolve_right (by omega)), fun i hi => by
    rcases k.nw i hi with e | e
    · exact h.nw i e
    · exact .inr (Nat.le_trans h.ch.size e)⟩
theorem Bs.kept {a b c : World} {g : Nat} {x x1 : Cb} {sm sm1 : Value} {q1 : Pq} {qvs qvs1 : List Value} {ns1 : List ByteArray} {bm : Nat} {asc : Bool} (h : Bs a g x sm qvs bm asc b x1 sm1 q1 qvs1 ns1) (hg : b.grownBy c none) : Bs a g x sm qvs bm asc c x1 sm1 q1 qvs1 ns1 := ⟨h.bu.kept hg, h.ch.gb hg (fun i e => by cases e), h.nw⟩
/-- a step that turns the builder's own block and its text -/
theorem Bu.fr {w w' : World} {g : Nat} {x x' : Cb} {sm sm' : Value} {q q' : Pq} {qvs : List Value} {ns : List ByteArray} {bm : Nat} {asc : Bool} (h : Bu w g x sm q qvs ns bm asc) (hf : Fr w g sm w' sm') (hc : Cbd w' g (up x' sm' q') (txt false q'.toks)) (h1 : x'.qn = x.qn) (h2 : x'.nm = x.nm) (h3 : x'.ism = x.ism) (h4 : x'.cov = x.cov) (h5 : x'.asc = x.asc) :
    Bs w g x sm qvs bm asc w' x' sm' q' qvs ns := by
  have hqs : ∀ i, x.qn.ownBlock = some i → sm.ownBlock ≠ some i := ne_types h.qn.heap h.cbd.own.heap (by decide)
  have hnw := hf.nw
  refine ⟨⟨hc, h3.trans h.ism, h4.trans h.cov, h5.trans h.as_, ?_, h.ql, fun k hk hk' => ?_, fun v hv o ho => ?_, h2.trans h.nm, ?_, h.bg⟩, ⟨hf.os, hf.tape, hf.output, hf.size, fun i hi hF => hf.block i hi (fun e => hF (.inl e)) (fun e => hF (.inr (.inl e)))⟩, ?_⟩
  · rw [h1]
    exact h.qn.eq (fun i hi => hf.block i (h.qn.lt i hi).2 (by have := (h.qn.lt i hi).1; omega) (hqs i hi))
  · have ho := h.qd k hk hk'
    exact ho.eq (fun i hi => hf.block i (ho.lt i hi).2 (by have := (ho.lt i hi).1; omega) (h.qs _ (List.getElem_mem hk) i hi))
  · rcases hnw with e | ⟨y, e, hy⟩
    · rw [e]; exact h.qs v hv o ho
    · rw [e]; intro c; cases c
      obtain ⟨k, hk, rfl⟩ := List.getElem_of_mem hv
      have := ((h.qd k hk (by rw [← h.ql]; exact hk)).lt _ ho).2
      omega
  · obtain ⟨n, D, a1, a2, a3⟩ := h.mp
    exact ⟨n, D, a1.eq (hf.block bm a1.lt (by have := h.bg; omega) (fun e => by have := (h.cbd.own.lt bm e).1; have := h.bg; omega)), a2, a3⟩
  · rintro i (hi | hi | hi | hi | hi)
    · exact .inl (.inl hi)
    · rcases hnw with e | ⟨y, e, hy⟩
      · exact .inl (.inr (.inl (e ▸ hi)))
      · rw [e] at hi; cases hi; exact .inr hy
    · rw [h1] at hi; exact .inl (.inr (.inr (.inl hi)))
    · exact .inl (.inr (.inr (.inr (.inl hi))))
    · exact .inl (.inr (.inr (.inr (.inr hi))))
/-- one field of the builder is turned that its names do not hang on -/
theorem Bu.put {w : World} {g : Nat} {x x' : Cb} {sm : Value} {q q' : Pq} {qvs : List Value} {ns : List ByteArray} {bm : Nat} {asc : Bool} (h : Bu w g x sm q qvs ns bm asc) (i : Nat) (v : Value) (hc : (up x sm q).cells.setIfInBounds i v = (up x' sm q').cells) (ht : q'.toks = q.toks) (h1 : x'.qn = x.qn) (h2 : x'.nm = x.nm) (h3 : x'.ism = x.ism) (h4 : x'.cov = x.cov) (h5 : x'.asc = x.asc) :
    Bs w g x sm qvs bm asc (w.setCell ⟨g, i, none⟩ v) x' sm q' qvs ns := by
  have hr := Rw.put (w0 := w) (v0 := sm) ⟨h.cbd.blk, h.cbd.own, h.cbd.tab, Fr.refl _ _ _⟩ i v
  refine h.fr hr.fr ⟨?_, ?_, hr.tab⟩ h1 h2 h3 h4 h5
  · have := hr.blk; rw [hc] at this; exact this
  · rw [ht]; exact hr.own
def IsBs (w : World) (g : Nat) (x : Cb) (sm : Value) (qvs : List Value) (bm : Nat) (asc : Bool) (q' : Pq) (ns' : List ByteArray) (lu pgl loc : Int) (pon : ByteArray) (lot : Value) (e : Ending) (w' : World) : Prop := ∃ x' sm' qvs', e = .returned (.tuple #[]) ∧ Bs w g x sm qvs bm asc w' x' sm' q' qvs' ns' ∧ x'.lu = lu ∧ x'.pgl = pgl ∧ x'.loc = loc ∧ x'.pon = pon ∧ x'.lot = lot ∧ Fno x'.fno q' ns'
/-- updateGeneratedLineAndColumn -/
theorem bupd (g : Nat) (x : Cb) (sm v : Value) (q : Pq) (qvs : List Value) (ns : List ByteArray) (bm : Nat) (asc : Bool) (u m : Nat) (T : ByteArray) (w : World) (h : Bu w g x sm q qvs ns bm asc) (hfn : Fno x.fno q ns) (hlu : x.lu = (u : Nat)) (ho : OutV v u T w) (hof : ∀ o, v.ownBlock = some o → ¬ bfp g x sm qvs bm o) (hcz : u + T.size ≤ 4194304) (hb : Qb q u m) (hm : m ≤ 1048576) :
    Calls Tryd.prog 27 #[.pointer (some ⟨g, 0, none⟩), v] w (IsBs w g x sm qvs bm asc (runQ T q T.size) ns ((u + T.size : Nat) : Int) x.pgl x.loc x.pon x.lot) := by
  refine (upd_all x g q sm v u m T w hlu h.cov h.cbd ho (fun e => hof g e (.inl rfl)) (fun o ho e => hof o ho (.inr (.inl e))) hcz hb hm).mono ?_
  rintro e w' ⟨sm', rfl, hr⟩
  obtain ⟨l, hl1, hl2⟩ := run_grow T q T.size
  refine ⟨{ x with lu := ((u + T.size : Nat) : Int) }, sm', qvs, rfl, h.fr hr.fr ⟨hr.blk, hr.own, hr.tab⟩ rfl rfl rfl rfl rfl, rfl, rfl, rfl, rfl, rfl, ?_⟩
  obtain ⟨ex, hex⟩ := txt_grow q l
  exact hfn.grow ex (by rw [hl1]; exact hex) hl2
/-- what a mapping makes of the builder's fields -/
theorem up_afterN (x : Cb) (sm v' : Value) (q : Pq) (xs : List Int) (gc ol oc : Int) (k : Nat) (hf : x.fno ≠ 0) : (up x sm q).after v' xs ⟨q.gl, gc, 0, ol, oc, (k : Int), true⟩ = up x v' (q.app gc ol oc (some k)) := (after1 (up x sm q) v' xs ⟨q.gl, gc, 0, ol, oc, (k : Int), true⟩ rfl hf).trans rfl
theorem up_after1 (x : Cb) (sm v' : Value) (q : Pq) (xs : List Int) (gc ol oc : Int) (k : Nat) (hf : x.fno = 0) : (up x sm q).after v' xs ⟨q.gl, gc, 0, ol, oc, (k : Int), true⟩ = up { x with fno := nof true (xs ++ (cm (lastOf xs) ++ encs [gc - q.gc, 0 - 0, ol - q.ol, oc - q.oc])).length } v' (q.app gc ol oc (some k)) := (after2 (up x sm q) v' xs ⟨q.gl, gc, 0, ol, oc, (k : Int), true⟩ rfl hf).trans rfl
theorem ds_upN (x : Cb) (sm : Value) (q : Pq) (gc ol oc : Int) (k : Nat) : St.ds (up x sm q).p ⟨q.gl, gc, 0, ol, oc, (k : Int), true⟩ = q.ds gc ol oc (some k) := by simp [St.ds, Pq.ds, up]
/-- appendMappingWithoutRemapping without a name -/
theorem bamw0 (g : Nat) (x : Cb) (sm : Value) (q : Pq) (qvs : List Value) (ns : List ByteArray) (bm : Nat) (asc : Bool) (u m : Nat) (gc ol oc : Int) (w : World) (h : Bu w g x sm q qvs ns bm asc) (hfn : Fno x.fno q ns) (hb : Qb q u m) (hu : u ≤ 4194304) (hm : m ≤ 2097152) (g0 : 0 ≤ gc) (g1 : gc ≤ 16777216) (l0 : 0 ≤ ol) (l1 : ol ≤ 4194304) (o0 : 0 ≤ oc) (o1 : oc ≤ 4194304) :
    Calls Tryd.prog 28 #[.pointer (some ⟨g, 0, none⟩), .agg (⟨q.gl, gc, 0, ol, oc, 0, false⟩ : St).cells] w (IsBs w g x sm qvs bm asc (q.app gc ol oc none) ns x.lu x.pgl x.loc x.pon x.lot) := by
  have a0 := hb.gc0; have a1 := hb.gc1; have a2 := hb.ol0; have a3 := hb.ol1; have a4 := hb.oc0; have a5 := hb.oc1; have a6 := hb.on0; have a7 := hb.on1; have a8 := hb.len
  have hwk := hb.ok.wk
  have htl := txt_len q.toks false hwk
  refine (amw_any g (up x sm q) (txt false q.toks) q.gl gc 0 ol oc 0 false w h.cbd (last_ok _ hwk) (by show Bnd (gc - q.gc); unfold Bnd; omega) (by show Bnd ((0 : Int) - 0); unfold Bnd; omega) (by show Bnd (ol - q.ol); unfold Bnd; omega) (by show Bnd (oc - q.oc); unfold Bnd; omega) (by show Bnd ((0 : Int) - q.on); unfold Bnd; omega) (by omega)).mono ?_
  rintro e w' ⟨v', rfl, hc, hf⟩
  rw [up_after, ds_up] at hc
  have htx : txt false (q.app gc ol oc none).toks = txt false q.toks ++ (cm (lastOf (txt false q.toks)) ++ encs (q.ds gc ol oc none)) := txt_seg _ hwk _
  refine ⟨x, v', qvs, rfl, h.fr hf ?_ rfl rfl rfl rfl rfl, rfl, rfl, rfl, rfl, rfl, hfn.grow _ htx rfl⟩
  rw [htx]; exact hc
/-- .. with a name -/
theorem bamw1 (g : Nat) (x : Cb) (sm : Value) (q : Pq) (qvs : List Value) (ns : List ByteArray) (bm : Nat) (asc : Bool) (u m : Nat) (gc ol oc : Int) (k : Nat) (w : World) (h : Bu w g x sm q qvs ns bm asc) (hfn : Fno x.fno q ns) (hb : Qb q u m) (hu : u ≤ 4194304) (hm : m ≤ 2097152) (g0 : 0 ≤ gc) (g1 : gc ≤ 16777216) (l0 : 0 ≤ ol) (l1 : ol ≤ 4194304) (o0 : 0 ≤ oc) (o1 : oc ≤ 4194304) (hk : k ≤ 1048576) (hne : x.fno ≠ 0) :
    Calls Tryd.prog 28 #[.pointer (some ⟨g, 0, none⟩), .agg (⟨q.gl, gc, 0, ol, oc, (k : Int), true⟩ : St).cells] w (IsBs w g x sm qvs bm asc (q.app gc ol oc (some k)) ns x.lu x.pgl x.loc x.pon x.lot) := by
  have a0 := hb.gc0; have a1 := hb.gc1; have a2 := hb.ol0; have a3 := hb.ol1; have a4 := hb.oc0; have a5 := hb.oc1; have a6 := hb.on0; have a7 := hb.on1; have a8 := hb.len
  have hwk := hb.ok.wk
  have htl := txt_len q.toks false hwk
  refine (amw_any g (up x sm q) (txt false q.toks) q.gl gc 0 ol oc k true w h.cbd (last_ok _ hwk) (by show Bnd (gc - q.gc); unfold Bnd; omega) (by show Bnd ((0 : Int) - 0); unfold Bnd; omega) (by show Bnd (ol - q.ol); unfold Bnd; omega) (by show Bnd (oc - q.oc); unfold Bnd; omega) (by show Bnd ((k : Int) - q.on); unfold Bnd; omega) (by omega)).mono ?_
  rintro e w' ⟨v', rfl, hc, hf⟩
  have htx : txt false (q.app gc ol oc (some k)).toks = txt false q.toks ++ (cm (lastOf (txt false q.toks)) ++ encs (q.ds gc ol oc (some k))) := txt_seg _ hwk _
  rw [up_afterN _ _ _ _ _ _ _ _ _ hne, ds_upN] at hc
  have hfn2 : Fno x.fno (q.app gc ol oc (some k)) ns := by
    rcases hfn with ⟨_, h2, _⟩ | ⟨h1, p, h2, h3, h4⟩
    · exact absurd h2 hne
    · refine .inr ⟨h1, p, h2, ?_, ?_⟩
      · rw [htx, List.length_append]; omega
      · rw [htx, nth_app_left _ _ _ h3]; exact h4
  refine ⟨x, v', qvs, rfl, h.fr hf ?_ rfl rfl rfl rfl rfl, rfl, rfl, rfl, rfl, rfl, hfn2⟩
  rw [htx]; exact hc
theorem enc0 : enc 0 = [65] := by decide
/-- .. with the first name -/
theorem bamwF (g : Nat) (x : Cb) (sm : Value) (q : Pq) (qvs : List Value) (ns : List ByteArray) (bm : Nat) (asc : Bool) (u m : Nat) (gc ol oc : Int) (w : World) (h : Bu w g x sm q qvs ns bm asc) (hne : ns ≠ []) (hf0 : x.fno = 0) (hon : q.on = 0) (hb : Qb q u m) (hu : u ≤ 4194304) (hm : m ≤ 2097152) (g0 : 0 ≤ gc) (g1 : gc ≤ 16777216) (l0 : 0 ≤ ol) (l1 : ol ≤ 4194304) (o0 : 0 ≤ oc) (o1 : oc ≤ 4194304) :
    Calls Tryd.prog 28 #[.pointer (some ⟨g, 0, none⟩), .agg (⟨q.gl, gc, 0, ol, oc, ((0 : Nat) : Int), true⟩ : St).cells] w (IsBs w g x sm qvs bm asc (q.app gc ol oc (some 0)) ns x.lu x.pgl x.loc x.pon x.lot) := by
  have a0 := hb.gc0; have a1 := hb.gc1; have a2 := hb.ol0; have a3 := hb.ol1; have a4 := hb.oc0; have a5 := hb.oc1; have a6 := hb.on0; have a7 := hb.on1; have a8 := hb.len
  have hwk := hb.ok.wk
  have htl := txt_len q.toks false hwk
  refine (amw_any g (up x sm q) (txt false q.toks) q.gl gc 0 ol oc ((0 : Nat) : Int) true w h.cbd (last_ok _ hwk) (by show Bnd (gc - q.gc); unfold Bnd; omega) (by show Bnd ((0 : Int) - 0); unfold Bnd; omega) (by show Bnd (ol - q.ol); unfold Bnd; omega) (by show Bnd (oc - q.oc); unfold Bnd; omega) (by show Bnd (((0 : Nat) : Int) - q.on); unfold Bnd; omega) (by omega)).mono ?_
  rintro e w' ⟨v', rfl, hc, hf⟩
  have htx : txt false (q.app gc ol oc (some 0)).toks = txt false q.toks ++ (cm (lastOf (txt false q.toks)) ++ encs (q.ds gc ol oc (some 0))) := txt_seg _ hwk _
  rw [up_after1 _ _ _ _ _ _ _ _ _ hf0, ds_upN] at hc
  have hds : encs (q.ds gc ol oc (some 0)) = encs [gc - q.gc, 0 - 0, ol - q.ol, oc - q.oc] ++ [65] := by
    have : q.ds gc ol oc (some 0) = [gc - q.gc, 0 - 0, ol - q.ol, oc - q.oc] ++ [0] := by simp [Pq.ds, hon]
    rw [this, encs_app]
    congr 1
  refine ⟨{ x with fno := nof true (txt false q.toks ++ (cm (lastOf (txt false q.toks)) ++ encs [gc - q.gc, 0 - 0, ol - q.ol, oc - q.oc])).length }, v', qvs, rfl, h.fr hf ?_ rfl rfl rfl rfl rfl, rfl, rfl, rfl, rfl, rfl, .inr ⟨hne, (txt false q.toks ++ (cm (lastOf (txt false q.toks)) ++ encs [gc - q.gc, 0 - 0, ol - q.ol, oc - q.oc])).length, rfl, ?_, ?_⟩⟩
  · rw [htx]; exact hc
  · rw [htx, hds]; simp
  · rw [htx, hds, ← List.append_assoc, ← List.append_assoc, List.append_assoc (txt false q.toks)]
    rw [show (txt false q.toks ++ (cm (lastOf (txt false q.toks)) ++ encs [gc - q.gc, 0 - 0, ol - q.ol, oc - q.oc])).length = (txt false q.toks ++ (cm (lastOf (txt false q.toks)) ++ encs [gc - q.gc, 0 - 0, ol - q.ol, oc - q.oc])).length + 0 from rfl, nth_app_right]
    rfl
end Go.Proofs.YtfbeeekakfllpaaDoor
