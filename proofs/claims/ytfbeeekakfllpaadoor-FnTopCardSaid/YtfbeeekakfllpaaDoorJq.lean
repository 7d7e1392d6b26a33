/-
  The joint invariant over a mapping. No statement of the seat is proved here.
-/
import Derived.Test.YtfbeeekakfllpaaDoorJt
import Derived.Test.YtfbeeekakfllpaaDoorLt
namespace Go.Proofs.YtfbeeekakfllpaaDoor
open Go.RowKit Go.Maps
set_option linter.unusedVariables false
set_option linter.unusedSimpArgs false
/-- both took the mapping -/
theorem Jn.step {wb : World} {b0 R : Nat} {w : World} {g : Nat} {x : Cb} {sm : Value} {qvs : List Value} {bm : Nat} {asc : Bool} {f B : Nat} {k : Rk} {q : Pq} {v : Value} {Bo : Nat} {pre : List Int} {T0 : ByteArray} {u m l : Nat} {rw' : Array Value}
    (h : Jn wb b0 R w g x sm qvs bm asc f B k q v Bo pre T0 u m l rw') {src : ByteArray} {p M L C : Nat} {s : ByteArray} {ns' : List ByteArray} {nm : Option Nat} {w1 w2 : World} {x1 : Cb} {sm1 : Value} {qvs1 : List Value} {k1 : Rk} (hMe : u + T0.size = M) (hL : (T src p).length = L) (hC : U src p - U src (LS src p) = C) (hM : M ≤ 4194304) (hm : m ≤ 1048576) (hsz : src.size ≤ 2097152) (hp : p ≤ src.size) (hs : s ∈ nms) (hnm : Nmd k.ns s ns' nm)
    (hb : Bs w g x sm qvs bm asc w1 x1 sm1 ((runQ T0 q T0.size).mapq (L : Nat) (C : Nat) nm) qvs1 ns') (hlu : x1.lu = (M : Int)) (hpgl : x1.pgl = (M : Int)) (hloc : x1.loc = p) (hpon : x1.pon = s) (hfn : Fno x1.fno ((runQ T0 q T0.size).mapq (L : Nat) (C : Nat) nm) ns')
    (hr : Rst w1 f B k w2 k1 ((runQ T0 q T0.size).mapq (L : Nat) (C : Nat) nm)) (hns : k1.ns = ns') (e1 : k1.ploc = p) (e2 : k1.plen = (M : Int)) (e3 : k1.pname = s) (e4 : k1.last = (M : Int)) :
    Jn wb b0 R w2 g x1 sm1 qvs1 bm asc f B k1 ((runQ T0 q T0.size).mapq (L : Nat) (C : Nat) nm) v Bo (pre ++ byI T0) ByteArray.empty M (m + 1) l rw' := by
  have hU := U_le src p
  have hTl := T_len src p
  obtain ⟨ho1, ho2, ho3⟩ := hnm.ok h.nk
  have hqb := (h.qb.run T0 T0.size (by omega)).mapq (by omega) (L : Nat) (C : Nat) nm (by omega) (by omega) (by omega) (by omega) (fun j hj => by have := ho2 j hj; omega)
  rw [hMe] at hqb
  subst hns
  refine h.both hb hr (by rw [byI_empty, List.append_nil]) (by rw [List.length_append, byI_len, h.pl, hMe]) hfn hqb ho1 (fun y hy => ?_) hlu e4 (hloc.trans e1.symm) (hpgl.trans e2.symm) (hpon.trans e3.symm)
  rcases ho3 y hy with h1 | rfl
  · exact h.nm y h1
  · exact hs
/-- the end: the builder gives its chunk, the reference reads the rest -/
theorem Jn.fin {wb : World} {b0 R : Nat} {w : World} {g : Nat} {x : Cb} {sm : Value} {qvs : List Value} {bm : Nat} {asc : Bool} {f B : Nat} {k : Rk} {q : Pq} {v : Value} {Bo : Nat} {pre : List Int} {T0 : ByteArray} {u m l : Nat} {rw' : Array Value}
    (h : Jn wb b0 R w g x sm qvs bm asc f B k q v Bo pre T0 u m l rw') {w1 w2 : World} {x1 : Cb} {sm1 : Value} {qvs1 : List Value} {k1 : Rk} (hM : u + T0.size ≤ 4194304) (hm : m ≤ 1048576)
    (hb : Bs w g x sm qvs bm asc w1 x1 sm1 (runQ T0 q T0.size) qvs1 k.ns) (hfn : Fno x1.fno (runQ T0 q T0.size) k.ns) (hr : Rst w1 f B k w2 k1 (runQ T0 q T0.size)) (hk : Kst k k1) :
    Cs w2 f B k1 (runQ T0 q T0.size) g x1 sm1 qvs1 bm asc (u + T0.size) m ∧ wb.grownBy w2 (some R) ∧ (∀ i, bfp g x1 sm1 qvs1 bm i → bm ≤ i) ∧ (∀ i, k1.fp f i → bm ≤ i) := by
  obtain ⟨nsk, k2, k3, k4⟩ := hk
  have hnsk := h.nk.le
  have hmg := h.cx.mg
  have hwm := h.cx.wm
  have hRm := h.rn
  have hbge : ∀ i, bfp g x sm qvs bm i → bm ≤ i := fun i hi => (h.bu.lt i hi).2
  have hfge := h.rf.ge h.bB h.bf
  have en1 : wb.grownBy w1 (some R) := ⟨hb.ch.os.trans h.en.os, hb.ch.tape.trans h.en.tape, hb.ch.output.trans h.en.output, Nat.le_trans h.en.size hb.ch.size, fun i hi hn => (hb.ch.block i (Nat.lt_of_lt_of_le hi h.en.size) (fun e => by have := hbge i e; omega)).trans (h.en.block i hi hn)⟩
  have en2 : wb.grownBy w2 (some R) := ⟨hr.ch.os.trans en1.os, hr.ch.tape.trans en1.tape, hr.ch.output.trans en1.output, Nat.le_trans en1.size hr.ch.size, fun i hi hn => (hr.ch.block i (Nat.lt_of_lt_of_le hi en1.size) (fun e => by have := hfge i e; omega)).trans (en1.block i hi hn)⟩
  have hd1 : ∀ i, bfp g x1 sm1 qvs1 bm i → ¬ k.fp f i := fun i hi hf => by
    rcases hb.nw i hi with e | e
    · exact h.dj i e hf
    · have := h.rf.lt i hf; omega
  have hbl : ∀ i, bfp g x1 sm1 qvs1 bm i → w2.heap[i]? = w1.heap[i]? := fun i hi => hr.ch.block i (hb.bu.lt i hi).1 (hd1 i hi)
  obtain ⟨n, D, p1, p2, p3⟩ := hb.bu.mp
  have hbu : Bu w2 g x1 sm1 (runQ T0 q T0.size) qvs1 k1.ns bm asc := by
    rw [nsk]
    exact ⟨⟨(hbl g (.inl rfl)).trans hb.bu.cbd.blk, hb.bu.cbd.own.eq (fun i hi => hbl i (.inr (.inl hi))), h.cx.tb en2⟩, hb.bu.ism, hb.bu.cov, hb.bu.as_, hb.bu.qn.eq (fun i hi => hbl i (.inr (.inr (.inl hi)))), hb.bu.ql, fun k hk hk' => (hb.bu.qd k hk hk').eq (fun i hi => hbl i (.inr (.inr (.inr (.inr ⟨_, List.getElem_mem hk, hi⟩))))), hb.bu.qs, hb.bu.nm, ⟨n, D, p1.eq (hbl bm (.inr (.inr (.inr (.inl rfl))))), p2, p3⟩, hb.bu.bg⟩
  refine ⟨⟨hr.rf, hbu, by rw [nsk]; exact hfn, h.qb.run T0 T0.size (by omega), by rw [nsk]; exact h.nm, by rw [nsk]; omega⟩, en2, fun i hi => (hb.bu.lt i hi).2, fun i hi => ?_⟩
  rcases hr.nw i hi with e | e
  · exact hfge i e
  · have := hb.bu.bg; have := hb.bu.cbd.blk.lt; omega
theorem Jn.keepR {wb : World} {b0 R : Nat} {w : World} {g : Nat} {x : Cb} {sm : Value} {qvs : List Value} {bm : Nat} {asc : Bool} {f B : Nat} {k : Rk} {q : Pq} {v : Value} {Bo : Nat} {pre : List Int} {T0 : ByteArray} {u m l : Nat} {rw' : Array Value}
    (h : Jn wb b0 R w g x sm qvs bm asc f B k q v Bo pre T0 u m l rw') {w1 w2 : World} {x1 : Cb} {sm1 : Value} {q1 : Pq} {qvs1 : List Value} {k1 : Rk} {ns1 : List ByteArray} (hb : Bs w g x sm qvs bm asc w1 x1 sm1 q1 qvs1 ns1) (hr : Rst w1 f B k w2 k1 q1) {t : TypeId} {cs : Array Value} (hR : Blk w R t cs) : Blk w2 R t cs := by
  have hRm := h.rn
  have hfge := h.rf.ge h.bB h.bf
  exact hr.ch.blk (hb.ch.blk hR (fun e => by have := (h.bu.lt R e).2; omega)) (fun e => by have := hfge R e; omega)
theorem Cs.put {w w' : World} {f B : Nat} {k : Rk} {q : Pq} {g : Nat} {x : Cb} {sm : Value} {qvs : List Value} {bm : Nat} {asc : Bool} {u m : Nat} (h : Cs w f B k q g x sm qvs bm asc u m) (h1 : ∀ i, bfp g x sm qvs bm i → bm ≤ i) (h2 : ∀ i, k.fp f i → bm ≤ i) (hb : ∀ i, bm ≤ i → i < w.heap.size → w'.heap[i]? = w.heap[i]?) (ht : Tab w' g) : Cs w' f B k q g x sm qvs bm asc u m := by
  obtain ⟨n, D, p1, p2, p3⟩ := h.bu.mp
  have hbl : ∀ i, bfp g x sm qvs bm i → w'.heap[i]? = w.heap[i]? := fun i hi => hb i (h1 i hi) (h.bu.lt i hi).1
  exact ⟨h.rf.eq (fun i hi => hb i (h2 i hi) (h.rf.lt i hi)), ⟨⟨(hbl g (.inl rfl)).trans h.bu.cbd.blk, h.bu.cbd.own.eq (fun i hi => hbl i (.inr (.inl hi))), ht⟩, h.bu.ism, h.bu.cov, h.bu.as_, h.bu.qn.eq (fun i hi => hbl i (.inr (.inr (.inl hi)))), h.bu.ql, fun k hk hk' => (h.bu.qd k hk hk').eq (fun i hi => hbl i (.inr (.inr (.inr (.inr ⟨_, List.getElem_mem hk, hi⟩))))), h.bu.qs, h.bu.nm, ⟨n, D, p1.eq (hbl bm (.inr (.inr (.inr (.inl rfl))))), p2, p3⟩, h.bu.bg⟩, h.fn, h.qb, h.nm, h.nl⟩
end Go.Proofs.YtfbeeekakfllpaaDoor
