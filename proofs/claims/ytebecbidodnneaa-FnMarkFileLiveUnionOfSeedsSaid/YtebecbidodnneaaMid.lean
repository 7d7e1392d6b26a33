/-
  A store over some cells of a block; make, of any element. No statement of the seat is proved here.
-/
import Derived.Test.YtebecbidodnneaaSm
import Derived.Deep.MidRow
import Derived.Deep.OwnRows
import Derived.KernelRfl
namespace Go.Proofs.Ytebecbidodnneaa
open Go.RowKit Go.ChangeShapes Go.WideShapes
set_option linter.unusedVariables false
set_option linter.unusedSimpArgs false

theorem Blk.has {w : World} {S : Nat} {t : TypeId} {cs : Array Value} (h : Blk w S t cs) {i : Nat} (hi : i < cs.size) : ∃ u, w.cell? ⟨S, i, none⟩ = some u := ⟨cs[i], by rw [h.cell, Array.getElem?_eq_getElem hi]⟩
theorem setCells_mid {b : Nat} {t : TypeId} : ∀ (vs : List Value) (o : Nat) (w : World) (cs : Array Value), Blk w b t cs → o + vs.length ≤ cs.size →
    ∃ cs', Blk (w.setCells b o vs) b t cs' ∧ cs'.size = cs.size ∧ (∀ j, j < o ∨ o + vs.length ≤ j → cs'[j]? = cs[j]?) ∧ ∀ j, j < vs.length → cs'[o + j]? = vs[j]? := by
  intro vs
  induction vs with
  | nil => intro o w cs h hl; rw [World.setCells]; exact ⟨cs, h, rfl, fun _ _ => rfl, fun j hj => by simp at hj⟩
  | cons v vs ih =>
    intro o w cs h hl
    rw [World.setCells]
    simp only [List.length_cons] at hl
    obtain ⟨cs', h1, h2, h3, h4⟩ := ih (o + 1) _ _ (h.set o v) (by simp; omega)
    refine ⟨cs', h1, by rw [h2]; simp, fun j hj => ?_, fun j hj => ?_⟩
    · simp only [List.length_cons] at hj
      rw [h3 j (by omega), Array.getElem?_setIfInBounds_ne (by omega)]
    · cases j with
      | zero =>
        rw [Nat.add_zero, h3 o (.inl (by omega))]
        simp only [List.getElem?_cons_zero]
        exact Array.getElem?_setIfInBounds_self_of_lt (by omega)
      | succ j =>
        have := h4 j (by simpa using hj)
        rw [show o + (j + 1) = o + 1 + j by omega, this, List.getElem?_cons_succ]
/-- a store over some cells of a block -/
theorem wpList_store_mid {P : Program} {ops : Array Oper} {rest : List Oper} {o : Oper} {a : Act} {w : World} {Q : Exit → Act → World → Prop} (hgd : o.guard = none) (t : TypeId) (x y : Operand) (ho : o.op = .store t x y)
    (b off : Nat) (old cells : Array Value) (hb : Blk w b t old) (hx : a.eval x = .pointer (some ⟨b, off, none⟩)) (hy : a.eval y = .agg cells) (hsz : off + cells.size ≤ old.size)
    (hi : (P.info? t).map (·.size) = some cells.size) (h1 : cells.all (·.oneCell') = true)
    (h : ∀ w' cs', Blk w' b t cs' → cs'.size = old.size → (∀ j, j < off ∨ off + cells.size ≤ j → cs'[j]? = old[j]?) → (∀ j, j < cells.size → cs'[off + j]? = cells[j]?) → w.grownBy w' (some b) → wpList P ops Q rest (a.put o.dst undef) w') : wpList P ops Q (o :: rest) a w :=
  wpList_plain hgd fun _ hK => by
    obtain ⟨cs', q1, q2, q3, q4⟩ := setCells_mid cells.toList off w old hb (by simpa using hsz)
    refine wp_store_mid t x y ho b off cells hx hy (fun j hj => ?_) hi h1 (hK _ _ (h _ cs' q1 q2 (by simpa using q3) (fun j hj => ?_) (setCells_gb _ _ _)))
    · rw [hb.cell, hb.free]
      exact ⟨by rw [Array.getElem?_eq_getElem (by omega)]; rfl, rfl⟩
    · have := q4 j (by simpa using hj)
      rw [this]; simp
/-- make, of any element: a new block of the zero cells -/
theorem wpList_make_blk {P : Program} (w : World) {ops : Array Oper} {rest : List Oper} {o : Oper} {a : Act} {Q : Exit → Act → World → Prop}
    (hg : o.guard = none) (l c : Operand) (t : TypeId) (hop : o.op = Op.makeSlice t l c)
    (e : TypeId) (z : Value) (m bytes : Nat) (h1 : P.underlying t = some (.slice e)) (h2 : (P.info? e).map (fun i => (i.zero, i.size, i.bytes)) = some (some z, m, bytes))
    (n : Nat) (hl : a.eval l = .int .i64 (n : Int)) (hc : a.eval c = .int .i64 (n : Int)) (b2 : bytes * n ≤ 281474976710656) (b3 : n ≤ maxLen)
    (hK : ∀ w', Blk w' w.heap.size e (madeCells z.cells (n * m)) → w.grownBy w' none → wpList P ops Q rest (a.put o.dst (.slice (some ⟨w.heap.size, 0, none⟩) n n)) w') :
    wpList P ops Q (o :: rest) a w := by
  obtain ⟨i, hi, hz, hs, hb⟩ := info_parts h2
  refine wpList_make_full w hg l c t hop w.heap.size e i z m h1 hi hz hs .i64 .i64 n n n hl hc rfl rfl (by rw [hb]; exact b2) b3 (Nat.le_refl _) ?_
  intro w' hown hgr
  refine hK w' ?_ hgr
  obtain ⟨_, h | ⟨g, cap, cur, hv, _, hh, _, _, hcs, htk⟩⟩ := hown
  · simp at h
  · simp only [Value.slice.injEq, Option.some.injEq, Addr.mk.injEq, and_true, true_and] at hv
    obtain ⟨rfl, rfl⟩ := hv
    have : cur = madeCells z.cells (n * m) := by
      apply Array.ext'
      rw [← List.take_of_length_le (l := cur.toList) (i := n * m) (by simp [hcs]), htk]
    rw [this] at hh
    exact hh
/-- make, its length an unsigned number: a new block of the zero cells -/
theorem wpList_make_blku {P : Program} (w : World) {ops : Array Oper} {rest : List Oper} {o : Oper} {a : Act} {Q : Exit → Act → World → Prop}
    (hg : o.guard = none) (l c : Operand) (t : TypeId) (hop : o.op = Op.makeSlice t l c)
    (e : TypeId) (z : Value) (m bytes : Nat) (h1 : P.underlying t = some (.slice e)) (h2 : (P.info? e).map (fun i => (i.zero, i.size, i.bytes)) = some (some z, m, bytes))
    (n : Nat) (hl : a.eval l = .int .u64 (n : Int)) (hc : a.eval c = .int .u64 (n : Int)) (b2 : bytes * n ≤ 281474976710656) (b3 : n ≤ maxLen)
    (hK : ∀ w', Blk w' w.heap.size e (madeCells z.cells (n * m)) → w.grownBy w' none → wpList P ops Q rest (a.put o.dst (.slice (some ⟨w.heap.size, 0, none⟩) n n)) w') :
    wpList P ops Q (o :: rest) a w := by
  obtain ⟨i, hi, hz, hs, hb⟩ := info_parts h2
  refine wpList_make_full w hg l c t hop w.heap.size e i z m h1 hi hz hs .u64 .u64 n n n hl hc rfl rfl (by rw [hb]; exact b2) b3 (Nat.le_refl _) ?_
  intro w' hown hgr
  refine hK w' ?_ hgr
  obtain ⟨_, h | ⟨g, cap, cur, hv, _, hh, _, _, hcs, htk⟩⟩ := hown
  · simp at h
  · simp only [Value.slice.injEq, Option.some.injEq, Addr.mk.injEq, and_true, true_and] at hv
    obtain ⟨rfl, rfl⟩ := hv
    have : cur = madeCells z.cells (n * m) := by
      apply Array.ext'
      rw [← List.take_of_length_le (l := cur.toList) (i := n * m) (by simp [hcs]), htk]
    rw [this] at hh
    exact hh
end Go.Proofs.Ytebecbidodnneaa
