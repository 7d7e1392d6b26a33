/-
  The reference in memory: lines of segments, names; emit. No statement of the seat is proved here.
-/
import Derived.Test.YtfbeeekakfllpaaDoorSx
import Derived.Test.YtfbeeekakfllpaaDoorRows2
import Derived.Test.YtfbeeekakfllpaaDoorPq
import Derived.Deep.CutBlock
import Derived.Deep.Light
namespace Go.Proofs.YtfbeeekakfllpaaDoor
open Go.RowKit
set_option linter.unusedVariables false
set_option linter.unusedSimpArgs false
theorem flat1 : ∀ vs : List Value, (vs.map fun x => [x]).flatten = vs
  | [] => rfl
  | v :: vs => by rw [List.map_cons, List.flatten_cons, flat1 vs]; rfl
abbrev Own1 (t : TypeId) (w : World) (B : Nat) (v : Value) (vs : List Value) : Prop := OwnT t 1 w B v (vs.map fun x => [x])
theorem Own1.at {t : TypeId} {w : World} {B : Nat} {v : Value} {vs : List Value} (h : Own1 t w B v vs) (k : Nat) (hk : k < vs.length) :
    ∃ g cap, v = .slice (some ⟨g, 0, none⟩) vs.length cap ∧ B ≤ g ∧ g < w.heap.size ∧ w.cell? ⟨g, k, none⟩ = some (vs[k]'hk) ∧ w.frozen? ⟨g, k, none⟩ = false := by
  obtain ⟨g, cap, h1, h2, h3, h4, h5⟩ := OwnT.at h k (by simpa using hk)
  have := h4 0 (by omega)
  simp at this
  exact ⟨g, cap, by simpa using h1, h2, h3, this, h5 k⟩
theorem Own1.set {t : TypeId} {w : World} {B : Nat} {v : Value} {vs : List Value} (h : Own1 t w B v vs) {g n cap : Nat} (hv : v = .slice (some ⟨g, 0, none⟩) n cap) (k : Nat) (x : Value) : Own1 t (w.setCell ⟨g, k, none⟩ x) B v (vs.set k x) := by
  obtain ⟨⟨h1, h2⟩, h3⟩ := h
  rw [flat1] at h1 h2
  rw [List.length_map] at h1 h2
  refine ⟨⟨by rw [flat1]; simp, ?_⟩, fun r hr => by simp only [List.mem_map] at hr; obtain ⟨y, _, rfl⟩ := hr; rfl⟩
  rw [flat1, List.length_map, List.length_set]
  rcases h2 with ⟨rfl, _⟩ | ⟨g', cap', cur, rfl, hB, hh, hc, hm, hs, ht⟩
  · cases hv
  · cases hv
    refine .inr ⟨g, cap, cur.setIfInBounds k x, rfl, hB, blk_set hh k x, hc, hm, by simp [hs], ?_⟩
    rw [Array.toList_setIfInBounds, List.take_set, ht]
theorem OwnT.heap {t : TypeId} {m : Nat} {w : World} {B : Nat} {v : Value} {rs : List (List Value)} (h : OwnT t m w B v rs) : ∀ g, v.ownBlock = some g → ∃ cur, w.heap[g]? = some (.cells cur t (0, 0)) := by
  intro g hg
  obtain ⟨⟨_, h2⟩, _⟩ := h
  rcases h2 with ⟨rfl, _⟩ | ⟨g', cap', cur, rfl, hB, hh, _⟩
  · cases hg
  · cases hg; exact ⟨cur, hh⟩
theorem OwnT.ne {t t' : TypeId} {m m' : Nat} {w : World} {B B' : Nat} {v v' : Value} {rs rs' : List (List Value)} (h : OwnT t m w B v rs) (h' : OwnT t' m' w B' v' rs') (ht : t ≠ t') : ∀ g, v.ownBlock = some g → v'.ownBlock ≠ some g := by
  intro g h1 h2
  obtain ⟨c1, e1⟩ := h.heap g h1
  obtain ⟨c2, e2⟩ := h'.heap g h2
  rw [e1] at e2; cases e2; exact ht rfl
theorem OwnT.neB {t t' : TypeId} {m : Nat} {w : World} {B : Nat} {v : Value} {rs : List (List Value)} {b : Nat} {cs : Array Value} (h : OwnT t m w B v rs) (hb : Blk w b t' cs) (ht : t ≠ t') : v.ownBlock ≠ some b := by
  intro h1
  obtain ⟨c1, e1⟩ := h.heap b h1
  rw [show w.heap[b]? = _ from hb] at e1; cases e1; exact ht rfl
/-- the cells of a segment -/
def sgRow (x : Sg) : List Value := [.int .i64 x.col, .int .i64 x.n, .int .i64 0, .int .i64 x.ol, .int .i64 x.oc, .int .i64 x.nm]
abbrev OwnS (w : World) (B : Nat) (v : Value) (xs : List Sg) : Prop := OwnT 94 6 w B v (xs.map sgRow)
/-- lines of segments: cvs the closed lines' slices, lv the last one's -/
structure Lns (w : World) (B : Nat) (v : Value) (cvs : List Value) (lv : Value) (rows : List (List Sg)) (cur : List Sg) : Prop where
  out : Own1 96 w B v (cvs ++ [lv])
  rl : cvs.length = rows.length
  cl : ∀ k, (h : k < cvs.length) → (h' : k < rows.length) → OwnS w B (cvs[k]'h) (rows[k]'h')
  la : OwnS w B lv cur
  ne : ∀ x ∈ cvs, ∀ g, x.ownBlock = some g → lv.ownBlock ≠ some g
/-- the blocks of lines -/
def LnF (v : Value) (cvs : List Value) (lv : Value) (i : Nat) : Prop := v.ownBlock = some i ∨ lv.ownBlock = some i ∨ ∃ x ∈ cvs, x.ownBlock = some i
theorem Lns.eq {w w' : World} {B : Nat} {v : Value} {cvs : List Value} {lv : Value} {rows : List (List Sg)} {cur : List Sg} (h : Lns w B v cvs lv rows cur) (hb : ∀ i, LnF v cvs lv i → w'.heap[i]? = w.heap[i]?) : Lns w' B v cvs lv rows cur :=
  ⟨h.out.eq (fun g hg => hb g (.inl hg)), h.rl, fun k hk hk' => (h.cl k hk hk').eq (fun g hg => hb g (.inr (.inr ⟨_, List.getElem_mem hk, hg⟩))), h.la.eq (fun g hg => hb g (.inr (.inl hg))), h.ne⟩
theorem Lns.lt {w : World} {B : Nat} {v : Value} {cvs : List Value} {lv : Value} {rows : List (List Sg)} {cur : List Sg} (h : Lns w B v cvs lv rows cur) : ∀ i, LnF v cvs lv i → B ≤ i ∧ i < w.heap.size := by
  rintro i (hi | hi | ⟨x, hx, hi⟩)
  · exact h.out.lt i hi
  · exact h.la.lt i hi
  · obtain ⟨k, hk, rfl⟩ := List.getElem_of_mem hx
    exact (h.cl k hk (by rw [← h.rl]; exact hk)).lt i hi
/-- the last line's slice is appended to -/
theorem Lns.push {w w' : World} {B : Nat} {v : Value} {cvs : List Value} {lv lv' : Value} {rows : List (List Sg)} {cur : List Sg} {x : Sg} (h : Lns w B v cvs lv rows cur) (ho : OwnT 94 6 w' B lv' (cur.map sgRow ++ [sgRow x])) (hg : w.grownBy w' lv.ownBlock) (hn : lv'.ownBlock = lv.ownBlock ∨ ∃ y, lv'.ownBlock = some y ∧ w.heap.size ≤ y)
    {go n cap : Nat} (hv : v = .slice (some ⟨go, 0, none⟩) n cap) : Lns (w'.setCell ⟨go, cvs.length, none⟩ lv') B v cvs lv' rows (cur ++ [x]) := by
  have hgo : v.ownBlock = some go := by rw [hv]; rfl
  have hs : w'.grownBy (w'.setCell ⟨go, cvs.length, none⟩ lv') (some go) := gb_set (gb_refl _ _) _ none _
  have hlo : lv.ownBlock ≠ some go := fun e => h.out.ne h.la (by decide) go hgo e
  have ho' : Own1 96 w' B v (cvs ++ [lv]) := h.out.gb hg (.inr (fun e => hlo (e ▸ hgo)))
  have hlv' : OwnS w' B lv' (cur ++ [x]) := by show OwnT 94 6 _ _ _ _; rw [List.map_append]; exact ho
  refine ⟨?_, h.rl, fun k hk hk' => ?_, hlv'.gb hs (.inr (fun e => ho'.ne hlv' (by decide) go hgo e)), fun y hy g hyg => ?_⟩
  · have := ho'.set hv cvs.length lv'
    rw [List.set_append_right _ _ (Nat.le_refl _)] at this
    simpa using this
  · have h1 := h.cl k hk hk'
    have h2 : OwnS w' B (cvs[k]'hk) (rows[k]'hk') := h1.gb hg (by
      rcases hx : (cvs[k]'hk).ownBlock with _ | y
      · exact .inl rfl
      · exact .inr (fun e => h.ne _ (List.getElem_mem hk) y hx e.symm))
    exact h2.gb hs (.inr (fun e => ho'.ne h2 (by decide) go hgo e))
  · obtain ⟨k, hk, rfl⟩ := List.getElem_of_mem hy
    rcases hn with e | ⟨z, e, hz⟩
    · rw [e]; exact h.ne _ hy g hyg
    · rw [e]; intro c; cases c
      have := ((h.cl k hk (by rw [← h.rl]; exact hk)).lt g hyg).2; omega
/-- a new line -/
theorem Lns.nl {w w' : World} {B : Nat} {v v' : Value} {cvs : List Value} {lv : Value} {rows : List (List Sg)} {cur : List Sg} (h : Lns w B v cvs lv rows cur) (ho : OwnT 96 1 w' B v' ((cvs ++ [lv]).map (fun x => [x]) ++ [[.slice none 0 0]])) (hg : w.grownBy w' v.ownBlock) : Lns w' B v' (cvs ++ [lv]) (.slice none 0 0) (rows ++ [cur]) [] := by
  have hne : ∀ y : Value, (∀ g, v.ownBlock = some g → y.ownBlock ≠ some g) → y.ownBlock = none ∨ y.ownBlock ≠ v.ownBlock := by
    intro y hy
    rcases hx : y.ownBlock with _ | z
    · exact .inl rfl
    · exact .inr (fun e => hy z e.symm hx)
  refine ⟨by show OwnT 96 1 _ _ _ _; rw [List.map_append (l₁ := cvs ++ [lv])]; exact ho, by simp [h.rl], fun k hk hk' => ?_, OwnT.nil _ _ _ _, fun y _ g _ e => by cases e⟩
  rw [List.length_append] at hk
  rcases (show k < cvs.length ∨ k = cvs.length by simp at hk; omega) with c | c
  · have h1 := h.cl k c (by rw [← h.rl]; exact c)
    have h2 := h1.gb hg (hne _ (h.out.ne h1 (by decide)))
    rw [List.getElem_append_left c, List.getElem_append_left (by rw [← h.rl]; exact c)]
    exact h2
  · subst c
    have h2 := h.la.gb hg (hne _ (h.out.ne h.la (by decide)))
    rw [List.getElem_append_right (Nat.le_refl _), List.getElem_append_right (by rw [h.rl]; exact Nat.le_refl _)]
    simpa [h.rl] using h2
/-- the reference's block -/
structure Rk where
  v : Value
  cvs : List Value
  lv : Value
  nv : Value
  ns : List ByteArray
  ploc : Int
  plen : Int
  pname : ByteArray
  last : Int
def Rk.cells (k : Rk) (q : Pq) : Array Value := #[k.v, k.nv, .int .i64 k.ploc, .int .i64 k.plen, .string k.pname, .bool q.hp, .bool q.ls, .int .i64 q.gl, .int .i64 q.gcol, .int .i64 q.gc, .int .i64 q.ol, .int .i64 q.oc, .int .i64 q.on, .bool q.hn, .int .i64 k.last, .int .i64 (sgs q.toks : Nat)]
structure Rf (w : World) (f B : Nat) (k : Rk) (q : Pq) : Prop where
  blk : Blk w f 67 (k.cells q)
  lns : Lns w B k.v k.cvs k.lv q.rows q.cur
  nms : Own1 9 w B k.nv (k.ns.map Value.string)
/-- the blocks of the reference -/
def Rk.fp (f : Nat) (k : Rk) (i : Nat) : Prop := i = f ∨ k.nv.ownBlock = some i ∨ LnF k.v k.cvs k.lv i
theorem Rf.eq {w w' : World} {f B : Nat} {k : Rk} {q : Pq} (h : Rf w f B k q) (hb : ∀ i, k.fp f i → w'.heap[i]? = w.heap[i]?) : Rf w' f B k q :=
  ⟨(hb f (.inl rfl)).trans h.blk, h.lns.eq (fun i hi => hb i (.inr (.inr hi))), h.nms.eq (fun g hg => hb g (.inr (.inl hg)))⟩
theorem Rf.lt {w : World} {f B : Nat} {k : Rk} {q : Pq} (h : Rf w f B k q) : ∀ i, k.fp f i → i < w.heap.size := by
  rintro i (rfl | hi | hi)
  · exact h.blk.lt
  · exact (h.nms.lt i hi).2
  · exact (h.lns.lt i hi).2
theorem Rf.ch {w w' : World} {f B : Nat} {k : Rk} {q : Pq} (h : Rf w f B k q) {F : Nat → Prop} (hc : Ch F w w') (hF : ∀ i, k.fp f i → ¬ F i) : Rf w' f B k q := h.eq (fun i hi => hc.block i (h.lt i hi) (hF i hi))
theorem Rf.kept {w w' : World} {f B : Nat} {k : Rk} {q : Pq} (h : Rf w f B k q) (hg : w.grownBy w' none) : Rf w' f B k q := h.eq (fun i hi => hg.block i (h.lt i hi) (by simp))
/-- a call on the reference: what it turns is the reference's own or new -/
structure Rst (w : World) (f B : Nat) (k : Rk) (w' : World) (k' : Rk) (q' : Pq) : Prop where
  rf : Rf w' f B k' q'
  ch : Ch (k.fp f) w w'
  nw : ∀ i, k'.fp f i → k.fp f i ∨ w.heap.size ≤ i
theorem Rst.refl {w : World} {f B : Nat} {k : Rk} {q : Pq} (h : Rf w f B k q) : Rst w f B k w k q := ⟨h, Ch.refl _ _, fun i hi => .inl hi⟩
theorem Rst.trans {a b c : World} {f B : Nat} {k k1 k2 : Rk} {q1 q2 : Pq} (h : Rst a f B k b k1 q1) (g : Rst b f B k1 c k2 q2) : Rst a f B k c k2 q2 :=
  ⟨g.rf, h.ch.trans g.ch (fun i hi hf => (h.nw i hf).resolve_right (by omega)), fun i hi => by
    rcases g.nw i hi with e | e
    · exact h.nw i e
    · exact .inr (Nat.le_trans h.ch.size e)⟩
theorem Rst.kept {a b c : World} {f B : Nat} {k k1 : Rk} {q1 : Pq} (h : Rst a f B k b k1 q1) (hg : b.grownBy c none) : Rst a f B k c k1 q1 :=
  ⟨h.rf.kept hg, h.ch.gb hg (fun i e => by cases e), h.nw⟩
/-- the reference while its cells are turned one by one -/
structure Rx (w0 : World) (f B : Nat) (k0 : Rk) (w : World) (cs : Array Value) (k : Rk) (rows : List (List Sg)) (cur : List Sg) : Prop where
  blk : Blk w f 67 cs
  lns : Lns w B k.v k.cvs k.lv rows cur
  nms : Own1 9 w B k.nv (k.ns.map Value.string)
  ch : Ch (k0.fp f) w0 w
  nw : ∀ i, k.fp f i → k0.fp f i ∨ w0.heap.size ≤ i
theorem Rx.start {w : World} {f B : Nat} {k : Rk} {q : Pq} (h : Rf w f B k q) : Rx w f B k w (k.cells q) k q.rows q.cur := ⟨h.blk, h.lns, h.nms, Ch.refl _ _, fun i hi => .inl hi⟩
theorem Rx.neF {w0 : World} {f B : Nat} {k0 : Rk} {w : World} {cs : Array Value} {k : Rk} {rows : List (List Sg)} {cur : List Sg} (h : Rx w0 f B k0 w cs k rows cur) : ¬ LnF k.v k.cvs k.lv f ∧ k.nv.ownBlock ≠ some f := by
  refine ⟨?_, h.nms.neB h.blk (by decide)⟩
  rintro (e | e | ⟨x, hx, e⟩)
  · exact h.lns.out.neB h.blk (by decide) e
  · exact h.lns.la.neB h.blk (by decide) e
  · obtain ⟨j, hj, rfl⟩ := List.getElem_of_mem hx
    exact (h.lns.cl j hj (by rw [← h.lns.rl]; exact hj)).neB h.blk (by decide) e
theorem Rx.put {w0 : World} {f B : Nat} {k0 : Rk} {w : World} {cs : Array Value} {k : Rk} {rows : List (List Sg)} {cur : List Sg} (h : Rx w0 f B k0 w cs k rows cur) (i : Nat) (x : Value) : Rx w0 f B k0 (w.setCell ⟨f, i, none⟩ x) (cs.setIfInBounds i x) k rows cur := by
  have hg : w.grownBy (w.setCell ⟨f, i, none⟩ x) (some f) := gb_set (gb_refl _ _) i none _
  have hn := h.neF
  refine ⟨h.blk.set i x, h.lns.eq (fun j hj => hg.block j (h.lns.lt j hj).2 (fun e => by cases e; exact hn.1 hj)), h.nms.eq (fun g hgg => hg.block g (h.nms.lt g hgg).2 (fun e => by cases e; exact hn.2 hgg)), h.ch.set f i x (fun _ => .inl rfl), h.nw⟩
theorem Rx.kept {w0 : World} {f B : Nat} {k0 : Rk} {w w' : World} {cs : Array Value} {k : Rk} {rows : List (List Sg)} {cur : List Sg} (h : Rx w0 f B k0 w cs k rows cur) (hg : w.grownBy w' none) : Rx w0 f B k0 w' cs k rows cur :=
  ⟨h.blk.gb hg (by simp), h.lns.eq (fun j hj => hg.block j (h.lns.lt j hj).2 (by simp)), h.nms.eq (fun g hgg => hg.block g (h.nms.lt g hgg).2 (by simp)), h.ch.gb hg (fun i e => by cases e), h.nw⟩
theorem Rx.fin {w0 : World} {f B : Nat} {k0 : Rk} {w : World} {cs : Array Value} {k : Rk} {rows : List (List Sg)} {cur : List Sg} (h : Rx w0 f B k0 w cs k rows cur) (k' : Rk) (q' : Pq) (hv : k'.v = k.v) (hcv : k'.cvs = k.cvs) (hlv : k'.lv = k.lv) (hnv : k'.nv = k.nv) (hns : k'.ns = k.ns) (hr : q'.rows = rows) (hc : q'.cur = cur) (hcs : cs = k'.cells q') : Rst w0 f B k0 w k' q' := by
  subst hr hc hcs
  refine ⟨⟨h.blk, ?_, ?_⟩, h.ch, fun i hi => h.nw i ?_⟩
  · rw [hv, hcv, hlv]; exact h.lns
  · rw [hnv, hns]; exact h.nms
  · unfold Rk.fp at hi ⊢; rw [hv, hcv, hlv, hnv] at hi; exact hi
theorem fp_lv (k : Rk) (v' : Value) (f i : Nat) (h : ({ k with lv := v' } : Rk).fp f i) : k.fp f i ∨ v'.ownBlock = some i := by
  rcases h with e | e | e | e | e
  · exact .inl (.inl e)
  · exact .inl (.inr (.inl e))
  · exact .inl (.inr (.inr (.inl e)))
  · exact .inr e
  · exact .inl (.inr (.inr (.inr (.inr e))))
/-- a segment is written to the last line -/
theorem Rx.emit {w0 : World} {f B : Nat} {k0 : Rk} {w w1 w' : World} {cs : Array Value} {k : Rk} {rows : List (List Sg)} {cur : List Sg} {x : Sg} {lv' : Value} (h : Rx w0 f B k0 w cs k rows cur) (h1 : w.grownBy w1 none) (ho : OwnT 94 6 w' B lv' (cur.map sgRow ++ [sgRow x])) (hg : w1.grownBy w' k.lv.ownBlock) (hn : lv'.ownBlock = k.lv.ownBlock ∨ lv'.ownBlock = some w1.heap.size)
    {go n cap : Nat} (hv : k.v = .slice (some ⟨go, 0, none⟩) n cap) : Rx w0 f B k0 (w'.setCell ⟨go, k.cvs.length, none⟩ lv') cs { k with lv := lv' } rows (cur ++ [x]) := by
  have h2 := h.kept h1
  have hgo : k.v.ownBlock = some go := by rw [hv]; rfl
  have hs : w'.grownBy (w'.setCell ⟨go, k.cvs.length, none⟩ lv') (some go) := gb_set (gb_refl _ _) _ none _
  have hnf := h2.neF
  have hln := h2.lns.push ho hg (hn.imp id (fun e => ⟨_, e, Nat.le_refl _⟩)) hv
  have hgof : go ≠ f := fun e => hnf.1 (.inl (e ▸ hgo))
  have hlf : k.lv.ownBlock ≠ some f := fun e => hnf.1 (.inr (.inl e))
  have hF : ∀ i, k.lv.ownBlock = some i ∨ some go = some i → i < w0.heap.size → k0.fp f i := by
    intro i hi hl
    refine (h.nw i (.inr (.inr ?_))).resolve_right (by omega)
    rcases hi with e | e
    · exact .inr (.inl e)
    · exact .inl (by rw [hgo]; exact e)
  refine ⟨(h2.blk.gb hg (fun e => hlf e.symm)).gb hs (fun e => by cases e; exact hgof rfl), hln, ?_, (h2.ch.gb hg (fun i e hl => hF i (.inl e) hl)).gb hs (fun i e hl => hF i (.inr e) hl), fun i hi => ?_⟩
  · have hm := h2.nms
    refine (hm.eq (fun g hgg => hg.block g (hm.lt g hgg).2 (fun e => hm.ne h2.lns.la (by decide) g hgg e.symm))).gb hs ?_
    refine .inr (fun e => hm.ne h2.lns.out (by decide) go e hgo)
  · rcases fp_lv k lv' f i hi with e | e
    · exact h.nw i e
    · rcases hn with e2 | e2
      · rw [e2] at e; exact h.nw i (.inr (.inr (.inr (.inl e))))
      · rw [e2] at e; cases e; exact .inr (by have := h2.ch.size; omega)
theorem fp_line (k : Rk) (v' : Value) (f i : Nat) (h : ({ k with v := v', cvs := k.cvs ++ [k.lv], lv := .slice none 0 0 } : Rk).fp f i) : k.fp f i ∨ v'.ownBlock = some i := by
  rcases h with e | e | e | e | ⟨x, hx, e⟩
  · exact .inl (.inl e)
  · exact .inl (.inr (.inl e))
  · exact .inr e
  · cases e
  · rw [List.mem_append, List.mem_singleton] at hx
    rcases hx with hx | rfl
    · exact .inl (.inr (.inr (.inr (.inr ⟨x, hx, e⟩))))
    · exact .inl (.inr (.inr (.inr (.inl e))))
/-- a new line is begun -/
theorem Rx.line {w0 : World} {f B : Nat} {k0 : Rk} {w w1 w' : World} {cs : Array Value} {k : Rk} {rows : List (List Sg)} {cur : List Sg} {v' : Value} (h : Rx w0 f B k0 w cs k rows cur) (h1 : w.grownBy w1 none) (ho : OwnT 96 1 w' B v' ((k.cvs ++ [k.lv]).map (fun x => [x]) ++ [[.slice none 0 0]])) (hg : w1.grownBy w' k.v.ownBlock) (hn : v'.ownBlock = k.v.ownBlock ∨ v'.ownBlock = some w1.heap.size) :
    Rx w0 f B k0 w' cs { k with v := v', cvs := k.cvs ++ [k.lv], lv := .slice none 0 0 } (rows ++ [cur]) [] := by
  have h2 := h.kept h1
  have hnf := h2.neF
  have hvf : k.v.ownBlock ≠ some f := fun e => hnf.1 (.inl e)
  have hm := h2.nms
  refine ⟨h2.blk.gb hg (fun e => hvf e.symm), h2.lns.nl ho hg, hm.eq (fun g hgg => hg.block g (hm.lt g hgg).2 (fun e => hm.ne h2.lns.out (by decide) g hgg e.symm)), h2.ch.gb hg (fun i e hl => ?_), fun i hi => ?_⟩
  · exact (h.nw i (.inr (.inr (.inl e)))).resolve_right (by omega)
  · rcases fp_line k v' f i hi with e | e
    · exact h.nw i e
    · rcases hn with e2 | e2
      · rw [e2] at e; exact h.nw i (.inr (.inr (.inl e)))
      · rw [e2] at e; cases e; exact .inr (by have := h2.ch.size; omega)
/-- a name is added -/
theorem Rx.name {w0 : World} {f B : Nat} {k0 : Rk} {w w1 w' : World} {cs : Array Value} {k : Rk} {rows : List (List Sg)} {cur : List Sg} {v' : Value} {s : ByteArray} (h : Rx w0 f B k0 w cs k rows cur) (h1 : w.grownBy w1 none) (ho : OwnT 9 1 w' B v' ((k.ns.map Value.string).map (fun x => [x]) ++ [[.string s]])) (hg : w1.grownBy w' k.nv.ownBlock) (hn : v'.ownBlock = k.nv.ownBlock ∨ v'.ownBlock = some w1.heap.size) :
    Rx w0 f B k0 w' cs { k with nv := v', ns := k.ns ++ [s] } rows cur := by
  have h2 := h.kept h1
  have hnf := h2.neF
  have hln := h2.lns
  refine ⟨h2.blk.gb hg (fun e => hnf.2 e.symm), hln.eq (fun i hi => hg.block i (hln.lt i hi).2 (fun e => ?_)), ?_, h2.ch.gb hg (fun i e hl => ?_), fun i hi => ?_⟩
  · rcases hi with e1 | e1 | ⟨x, hx, e1⟩
    · exact h2.nms.ne hln.out (by decide) i e.symm e1
    · exact h2.nms.ne hln.la (by decide) i e.symm e1
    · obtain ⟨j, hj, rfl⟩ := List.getElem_of_mem hx
      exact h2.nms.ne (hln.cl j hj (by rw [← hln.rl]; exact hj)) (by decide) i e.symm e1
  · show OwnT 9 1 _ _ _ _
    rw [List.map_append, List.map_append]; exact ho
  · exact (h.nw i (.inr (.inl e))).resolve_right (by omega)
  · rcases hi with e | e | e
    · exact h.nw i (.inl e)
    · rcases hn with e2 | e2
      · exact h.nw i (.inr (.inl (e2 ▸ e)))
      · have := e2.symm.trans e; cases this; exact .inr (by have := h2.ch.size; omega)
    · exact h.nw i (.inr (.inr e))
end Go.Proofs.YtfbeeekakfllpaaDoor
