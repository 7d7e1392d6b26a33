/-
  Slices of integers as lists of numbers: what a walk asks of a slice that it reads ('In'), of a block of integers that the call itself made ('ints'), and 'make' of such a block. No statement of the seat is proved here.
-/
import Derived.Test.YtfbeeekakfllpaaDoorBase
import Derived.OwnWalk
import Derived.Laws.MakeOwn
namespace Go.Proofs.YtfbeeekakfllpaaDoor
open Go.RowKit

/-- the i-th number (0 beyond the end) -/
def nth (zs : List Int) (i : Nat) : Int := zs.getD i 0
theorem nth_get (zs : List Int) (i : Nat) (h : i < zs.length) : nth zs i = zs[i] := by simp [nth, h]
theorem nth_take (zs : List Int) (n i : Nat) (h : i < n) : nth (zs.take n) i = nth zs i := by simp [nth, h]
theorem nth_mem (zs : List Int) (i : Nat) (h : i < zs.length) : nth zs i ∈ zs := by rw [nth_get zs i h]; exact List.getElem_mem h
theorem nth_ext {xs ys : List Int} (hl : xs.length = ys.length) (h : ∀ i, i < xs.length → nth xs i = nth ys i) : xs = ys := by
  apply List.ext_getElem hl
  intro i h1 h2
  have := h i h1
  rwa [nth_get xs i h1, nth_get ys i h2] at this
theorem nth_set (zs : List Int) (i j : Nat) (v : Int) (hi : i < zs.length) : nth (zs.set i v) j = if j = i then v else nth zs j := by
  unfold nth
  by_cases h : j = i
  · subst h; simp [hi]
  · rw [if_neg h]; simp [Ne.symm h]

/-- a slice value whose address is 'ao' and whose elements read as the numbers zs (kind k) -/
def In (k : IntKind) (w : World) (ao : Option Addr) (zs : List Int) : Prop :=
  zs = [] ∨ ∃ b off, ao = some ⟨b, off, none⟩ ∧ b < w.heap.size ∧ ∀ i, i < zs.length → w.cell? ⟨b, off + i, none⟩ = some (.int k (nth zs i))
theorem In.nil (k : IntKind) (w : World) (ao : Option Addr) : In k w ao [] := .inl rfl
theorem In.kept {k : IntKind} {w w' : World} {ao : Option Addr} {zs : List Int} (h : In k w ao zs) (hb : Below w.heap.size w w') : In k w' ao zs := by
  rcases h with h | ⟨b, off, h1, h2, h3⟩
  · exact .inl h
  · exact .inr ⟨b, off, h1, Nat.lt_of_lt_of_le h2 hb.size, fun i hi => (hb.cell (p := ⟨b, off + i, none⟩) h2).trans (h3 i hi)⟩
theorem In.under {k : IntKind} {B : Nat} {w w' : World} {ao : Option Addr} {zs : List Int} (h : In k w ao zs) (hl : ∀ x, ao = some x → x.block < B) (hb : Below B w w') : In k w' ao zs := by
  rcases h with h | ⟨b, off, h1, h2, h3⟩
  · exact .inl h
  · exact .inr ⟨b, off, h1, Nat.lt_of_lt_of_le h2 hb.size, fun i hi => (hb.cell (p := ⟨b, off + i, none⟩) (show b < B from hl ⟨b, off, none⟩ h1)).trans (h3 i hi)⟩
theorem In.past {k : IntKind} {w0 w w' : World} {ao : Option Addr} {zs : List Int} {g : Nat} (h : In k w0 ao zs) (hb : Below w0.heap.size w0 w) (hg : w.grownBy w' (some g)) (hgl : w0.heap.size ≤ g) : In k w' ao zs :=
  h.kept (hb.trans ⟨hg.os, hg.tape, hg.output, hg.size, fun i hi => hg.block i (Nat.lt_of_lt_of_le hi hb.size) (fun e => by cases e; omega)⟩)
theorem In.alloc {k : IntKind} {w : World} {ao : Option Addr} {zs : List Int} (h : In k w ao zs) (o : Obj) : In k (w.alloc o) ao zs := h.kept ((Below.refl _ w).alloc (Nat.le_refl _) o)
theorem In.drew {k : IntKind} {w : World} {ao : Option Addr} {zs : List Int} (h : In k w ao zs) : In k w.drew ao zs := h
theorem In.at {k : IntKind} {w : World} {ao : Option Addr} {zs : List Int} (h : In k w ao zs) {i : Nat} (hi : i < zs.length) :
    ∃ b off, ao = some ⟨b, off, none⟩ ∧ b < w.heap.size ∧ w.cell? ⟨b, off + i, none⟩ = some (.int k (nth zs i)) := by
  rcases h with h | ⟨b, off, h1, h2, h3⟩
  · subst h; simp at hi
  · exact ⟨b, off, h1, h2, h3 i hi⟩

/-- the cells of a row of numbers -/
def ints (k : IntKind) (zs : List Int) : Array Value := (zs.map (Value.int k)).toArray
theorem ints_size (k : IntKind) (zs : List Int) : (ints k zs).size = zs.length := by simp [ints]
theorem ints_at (k : IntKind) (zs : List Int) (i : Nat) (h : i < zs.length) : (ints k zs)[i]? = some (.int k (nth zs i)) := by simp [ints, nth, h]
theorem ints_set (k : IntKind) (zs : List Int) (i : Nat) (v : Int) : (ints k zs).setIfInBounds i (.int k v) = ints k (zs.set i v) := by
  apply Array.ext'; simp [ints, List.map_set]
theorem Blk.in {k : IntKind} {w : World} {g : Nat} {t : TypeId} {zs : List Int} (h : Blk w g t (ints k zs)) : In k w (some ⟨g, 0, none⟩) zs :=
  .inr ⟨g, 0, rfl, h.lt, fun i hi => by rw [Nat.zero_add]; exact (h.cell i).trans (ints_at k zs i hi)⟩
theorem Blk.int {k : IntKind} {w : World} {g : Nat} {t : TypeId} {zs : List Int} (h : Blk w g t (ints k zs)) {i : Nat} (hi : i < zs.length) : w.cell? ⟨g, i, none⟩ = some (.int k (nth zs i)) := (h.cell i).trans (ints_at k zs i hi)
theorem Blk.put {k : IntKind} {w : World} {g : Nat} {t : TypeId} {zs : List Int} (h : Blk w g t (ints k zs)) (i : Nat) (v : Int) : Blk (w.setCell ⟨g, i, none⟩ (.int k v)) g t (ints k (zs.set i v)) := by
  have := h.set i (.int k v); rwa [ints_set] at this

theorem made_ints (k : IntKind) (n : Nat) : madeCells (Value.int k 0).cells n = ints k (List.replicate n 0) := by
  apply Array.ext'
  apply List.ext_getElem
  · simp [madeCells, ints]
  · intro i h1 h2
    simp [madeCells, ints, Value.cells, Nat.mod_one]

/-- 'make([]T, n)', T an integer type: a new block of n zeros. -/
theorem wpList_make_ints {P : Program} (w : World) {ops : Array Oper} {rest : List Oper} {o : Oper} {a : Act} {Q : Exit → Act → World → Prop}
    (hg : o.guard = none) (l c : Operand) (t : TypeId) (hop : o.op = Op.makeSlice t l c)
    (e : TypeId) (k : IntKind) (bytes : Nat) (h1 : P.underlying t = some (.slice e)) (h2 : (P.info? e).map (fun i => (i.zero, i.size, i.bytes)) = some (some (.int k 0), 1, bytes))
    (n : Nat) (hl : a.eval l = .int .i64 (n : Int)) (hc : a.eval c = .int .i64 (n : Int)) (b2 : bytes * n ≤ 281474976710656) (b3 : n ≤ maxLen)
    (hK : ∀ w', Blk w' w.heap.size e (ints k (List.replicate n 0)) → w.grownBy w' none → wpList P ops Q rest (a.put o.dst (.slice (some ⟨w.heap.size, 0, none⟩) n n)) w') :
    wpList P ops Q (o :: rest) a w := by
  obtain ⟨i, hi, hz, hs, hb⟩ := info_parts h2
  refine wpList_make_full w hg l c t hop w.heap.size e i (.int k 0) 1 h1 hi hz hs .i64 .i64 n n n hl hc rfl rfl (by rw [hb]; exact b2) b3 (Nat.le_refl _) ?_
  intro w' hown hgr
  refine hK w' ?_ hgr
  rw [made_ints] at hown
  obtain ⟨_, h | ⟨g, cap, cur, hv, _, hh, _, _, hcs, htk⟩⟩ := hown
  · simp at h
  · simp only [Value.slice.injEq, Option.some.injEq, Addr.mk.injEq, and_true, true_and] at hv
    obtain ⟨rfl, rfl⟩ := hv
    have : cur = ints k (List.replicate n 0) := by
      apply Array.ext'
      rw [← List.take_of_length_le (l := cur.toList) (i := n * 1) (by simp [hcs]), htk]
      simp
    rw [this] at hh
    exact hh

theorem made_flat (k : IntKind) (m n : Nat) (hm : 0 < m) : madeCells (Value.agg (ints k (List.replicate m 0))).cells n = ints k (List.replicate n 0) := by
  apply Array.ext'
  apply List.ext_getElem
  · simp [madeCells, ints]
  · intro i h1 h2
    simp [madeCells, ints, Value.cells, Nat.mod_lt _ hm]

/-- 'make([]T, n)', T a struct of m integers of one kind: a new block of n * m zeros. -/
theorem wpList_make_flat {P : Program} (w : World) {ops : Array Oper} {rest : List Oper} {o : Oper} {a : Act} {Q : Exit → Act → World → Prop}
    (hg : o.guard = none) (l c : Operand) (t : TypeId) (hop : o.op = Op.makeSlice t l c)
    (e : TypeId) (k : IntKind) (m bytes : Nat) (hm : 0 < m) (h1 : P.underlying t = some (.slice e)) (h2 : (P.info? e).map (fun i => (i.zero, i.size, i.bytes)) = some (some (.agg (ints k (List.replicate m 0))), m, bytes))
    (n : Nat) (hl : a.eval l = .int .i64 (n : Int)) (hc : a.eval c = .int .i64 (n : Int)) (b2 : bytes * n ≤ 281474976710656) (b3 : n ≤ maxLen)
    (hK : ∀ w', Blk w' w.heap.size e (ints k (List.replicate (n * m) 0)) → w.grownBy w' none → wpList P ops Q rest (a.put o.dst (.slice (some ⟨w.heap.size, 0, none⟩) n n)) w') :
    wpList P ops Q (o :: rest) a w := by
  obtain ⟨i, hi, hz, hs, hb⟩ := info_parts h2
  refine wpList_make_full w hg l c t hop w.heap.size e i (.agg (ints k (List.replicate m 0))) m h1 hi hz hs .i64 .i64 n n n hl hc rfl rfl (by rw [hb]; exact b2) b3 (Nat.le_refl _) ?_
  intro w' hown hgr
  refine hK w' ?_ hgr
  rw [made_flat k m _ hm] at hown
  obtain ⟨_, h | ⟨g, cap, cur, hv, _, hh, _, _, hcs, htk⟩⟩ := hown
  · simp at h
  · simp only [Value.slice.injEq, Option.some.injEq, Addr.mk.injEq, and_true, true_and] at hv
    obtain ⟨rfl, rfl⟩ := hv
    have : cur = ints k (List.replicate (n * m) 0) := by
      apply Array.ext'
      rw [← List.take_of_length_le (l := cur.toList) (i := n * m) (by simp [hcs]), htk]
    rw [this] at hh
    exact hh

/-! a copy that is filled from the front -/
def cpy (zs : List Int) (k : Nat) : List Int := zs.take k ++ List.replicate (zs.length - k) 0
theorem cpy_zero (zs : List Int) : cpy zs 0 = List.replicate zs.length 0 := by simp [cpy]
theorem cpy_end (zs : List Int) : cpy zs zs.length = zs := by simp [cpy]
theorem cpy_length (zs : List Int) (k : Nat) (h : k ≤ zs.length) : (cpy zs k).length = zs.length := by simp [cpy]; omega
theorem cpy_step (zs : List Int) (k : Nat) (h : k < zs.length) : (cpy zs k).set k (nth zs k) = cpy zs (k + 1) := by
  have e : zs.length - k = (zs.length - (k + 1)) + 1 := by omega
  rw [nth_get zs k h]
  unfold cpy
  have hm : (zs.take k).length = k := by rw [List.length_take]; omega
  rw [e, List.replicate_succ, List.set_append_right _ _ (by omega), hm, Nat.sub_self, List.set_cons_zero, List.take_succ_eq_append_getElem h, List.append_assoc, List.singleton_append]

/-- what a clone hands back: a slice that reads as zs, of the call's own; nothing that was there has turned -/
def Cloned (k : IntKind) (e : TypeId) (w : World) (zs : List Int) (en : Ending) (w' : World) : Prop :=
  ∃ ao cap, en = .returned (.slice ao zs.length cap) ∧ (zs = [] ∨ ∃ g, ao = some ⟨g, 0, none⟩ ∧ w.heap.size ≤ g ∧ Blk w' g e (ints k zs)) ∧ Below w.heap.size w w'
theorem Cloned.in' {k : IntKind} {e : TypeId} {w w' : World} {zs : List Int} {ao : Option Addr} (h : zs = [] ∨ ∃ g, ao = some ⟨g, 0, none⟩ ∧ w.heap.size ≤ g ∧ Blk w' g e (ints k zs)) : In k w' ao zs := by
  rcases h with h | ⟨g, rfl, _, hb⟩
  · exact .inl h
  · exact hb.in
end Go.Proofs.YtfbeeekakfllpaaDoor
