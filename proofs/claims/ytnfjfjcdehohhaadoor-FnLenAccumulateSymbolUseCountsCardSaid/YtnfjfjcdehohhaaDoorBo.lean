/-
  A row of Bools and a row of numbers, one for each symbol. No statement of the seat is proved here.
-/
import Derived.Test.YtnfjfjcdehohhaaDoorBase
import Derived.Test.YtnfjfjcdehohhaaDoorInts
import Derived.Test.YtnfjfjcdehohhaaDoorRt
import Derived.OwnWalk
namespace Go.Proofs.YtnfjfjcdehohhaaDoor
open Go.RowKit
set_option linter.unusedVariables false
set_option linter.unusedSimpArgs false

/-- the row in block P holds g 0, g 1, .. -/
structure Rw (w : World) (P : Nat) (e : TypeId) (n : Nat) (g : Nat → Value) : Prop where
  out : ∃ cs, Blk w P e cs ∧ cs.size = n ∧ ∀ t, t < n → cs[t]? = some (g t)
theorem Rw.gb {w w' : World} {P n : Nat} {e : TypeId} {g : Nat → Value} {r : Option Nat} (h : Rw w P e n g) (hg : w.grownBy w' r) (hne : some P ≠ r) : Rw w' P e n g := by
  obtain ⟨cs, h1, h2, h3⟩ := h.out
  exact ⟨cs, h1.gb hg hne, h2, h3⟩
theorem Rw.cell {w : World} {P n : Nat} {e : TypeId} {g : Nat → Value} (h : Rw w P e n g) {t : Nat} (ht : t < n) : w.cell? ⟨P, t, none⟩ = some (g t) := by
  obtain ⟨cs, h1, h2, h3⟩ := h.out
  rw [h1.cell, h3 t ht]
theorem Rw.free {w : World} {P n : Nat} {e : TypeId} {g : Nat → Value} (h : Rw w P e n g) (t : Nat) : w.frozen? ⟨P, t, none⟩ = false := by
  obtain ⟨cs, h1, h2, h3⟩ := h.out
  exact h1.free t
theorem Rw.lt {w : World} {P n : Nat} {e : TypeId} {g : Nat → Value} (h : Rw w P e n g) : P < w.heap.size := by
  obtain ⟨cs, h1, h2, h3⟩ := h.out
  exact h1.lt
theorem Rw.blk {w : World} {P n : Nat} {e : TypeId} {g : Nat → Value} (h : Rw w P e n g) : ∃ cs, Blk w P e cs := by
  obtain ⟨cs, h1, h2, h3⟩ := h.out
  exact ⟨cs, h1⟩
theorem Rw.congr {w : World} {P n : Nat} {e : TypeId} {g g' : Nat → Value} (h : Rw w P e n g) (hg : ∀ t, t < n → g t = g' t) : Rw w P e n g' := by
  obtain ⟨cs, h1, h2, h3⟩ := h.out
  exact ⟨cs, h1, h2, fun t ht => by rw [h3 t ht, hg t ht]⟩
theorem Rw.set {w : World} {P n : Nat} {e : TypeId} {g : Nat → Value} (h : Rw w P e n g) (t : Nat) (v : Value) : Rw (w.setCell ⟨P, t, none⟩ v) P e n (fun s => if s = t then v else g s) := by
  obtain ⟨cs, h1, h2, h3⟩ := h.out
  refine ⟨_, h1.set t v, by simp [h2], fun s hs => ?_⟩
  by_cases e : s = t
  · subst e
    rw [if_pos rfl]
    exact Array.getElem?_setIfInBounds_self_of_lt (by omega)
  · rw [if_neg e, Array.getElem?_setIfInBounds_ne (by omega)]
    exact h3 s hs
/-- 'make([]T, n)', T of one cell -/
theorem wpList_make_row {P : Program} (w : World) {ops : Array Oper} {rest : List Oper} {o : Oper} {a : Act} {Q : Exit → Act → World → Prop}
    (hg : o.guard = none) (l c : Operand) (t : TypeId) (hop : o.op = Op.makeSlice t l c)
    (e : TypeId) (z : Value) (hz1 : z.cells = #[z]) (bytes : Nat) (h1 : P.underlying t = some (.slice e)) (h2 : (P.info? e).map (fun i => (i.zero, i.size, i.bytes)) = some (some z, 1, bytes))
    (n : Nat) (hl : a.eval l = .int .i64 (n : Int)) (hc : a.eval c = .int .i64 (n : Int)) (b2 : bytes * n ≤ 281474976710656) (b3 : n ≤ maxLen)
    (hK : ∀ w', Rw w' w.heap.size e n (fun _ => z) → w.grownBy w' none → wpList P ops Q rest (a.put o.dst (.slice (some ⟨w.heap.size, 0, none⟩) n n)) w') :
    wpList P ops Q (o :: rest) a w := by
  obtain ⟨i, hi, hz, hs, hb⟩ := info_parts h2
  refine wpList_make_full w hg l c t hop w.heap.size e i z 1 h1 hi hz hs .i64 .i64 n n n hl hc rfl rfl (by rw [hb]; exact b2) b3 (Nat.le_refl _) ?_
  intro w' hown hgr
  refine hK w' ?_ hgr
  rw [hz1] at hown
  obtain ⟨_, h | ⟨g, cap, cur, hv, _, hh, _, _, hcs, htk⟩⟩ := hown
  · simp at h
  · simp only [Value.slice.injEq, Option.some.injEq, Addr.mk.injEq, and_true, true_and] at hv
    obtain ⟨rfl, rfl⟩ := hv
    refine ⟨cur, hh, by simpa using hcs, fun t ht => ?_⟩
    have e2 : cur.toList = (madeCells #[z] (n * 1)).toList := by
      rw [← htk, List.take_of_length_le (by simp [hcs])]
    rw [← Array.getElem?_toList, e2, Array.getElem?_toList, Array.getElem?_eq_getElem (by simp [madeCells]; omega)]
    simp [madeCells, Nat.mod_one]
theorem b_info : (Tryd.prog.info? 4).map (fun i => (i.zero, i.size, i.bytes)) = some (some (.bool false), 1, 1) := by kernel_rfl
theorem u_info : (Tryd.prog.info? 24).map (fun i => (i.zero, i.size, i.bytes)) = some (some (.int .u32 0), 1, 4) := by kernel_rfl
end Go.Proofs.YtnfjfjcdehohhaaDoor
