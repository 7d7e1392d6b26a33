/-
  The table list of GenerateLineOffsetTables in memory: what a table's cells are, the list's row, how it grows; a column slice of the call's own. (Types 87: LineOffsetTable, 21: int32, 57: its slice, 85: []int32.) No statement of the seat is proved here.
-/
import Derived.Test.YtfbeeekakfllpaaDoorLot
import Derived.Maps.AppendAt
namespace Go.Proofs.YtfbeeekakfllpaaDoor
open Go.RowKit
set_option linter.unusedVariables false
structure Tb where
  ao : Option Addr
  n : Nat
  cap : Nat
  f : Nat
  st : Nat
def Tb.v (t : Tb) : Value := .slice t.ao t.n t.cap
def Tb.cells (t : Tb) : List Value := [.slice t.ao t.n t.cap, .int .i32 t.f, .int .i32 t.st]
def tbRow (ts : List Tb) : List Value := ts.flatMap Tb.cells
theorem tbRow_length (ts : List Tb) : (tbRow ts).length = ts.length * 3 := by
  induction ts with
  | nil => rfl
  | cons t ts ih => rw [show tbRow (t :: ts) = t.cells ++ tbRow ts from rfl, List.length_append, ih, List.length_cons]; show 3 + _ = _; omega
theorem tbRow_snoc (ts : List Tb) (t : Tb) : tbRow (ts ++ [t]) = tbRow ts ++ t.cells := by simp [tbRow]
theorem tbRow_at (ts : List Tb) (k : Nat) (h : k < ts.length) (j : Nat) (hj : j < 3) : (tbRow ts)[k * 3 + j]? = (ts[k]'h).cells[j]? := by
  induction ts generalizing k with
  | nil => exact absurd h (by simp)
  | cons t ts ih =>
    rw [show tbRow (t :: ts) = t.cells ++ tbRow ts from rfl]
    cases k with
    | zero => rw [List.getElem?_append_left (by show _ < 3; omega)]; simp
    | succ k =>
      rw [List.getElem?_append_right (by show 3 ≤ _; omega), show (k + 1) * 3 + j - t.cells.length = k * 3 + j by show _ - 3 = _; omega]
      simpa using ih k (by simpa using h)
/-- v is a slice of tables of the call's own that reads as ts -/
def OwnB (w : World) (B : Nat) (v : Value) (ts : List Tb) : Prop := w.ownsRow B 87 3 v ts.length (tbRow ts)
theorem OwnB.lt {w : World} {B : Nat} {v : Value} {ts : List Tb} (h : OwnB w B v ts) : ∀ g, v.ownBlock = some g → B ≤ g ∧ g < w.heap.size := World.ownsRow.lt h
theorem OwnB.gb {w w' : World} {B : Nat} {v : Value} {ts : List Tb} {r : Option Nat} (h : OwnB w B v ts) (hg : w.grownBy w' r) (hne : v.ownBlock = none ∨ v.ownBlock ≠ r) : OwnB w' B v ts := World.ownsRow.kept h hg hne
/-- the block of a column slice and the block of the tables are two -/
theorem apart {w : World} {B B' : Nat} {v u : Value} {ts : List Tb} {zs : List Int} (h : OwnB w B v ts) (k : Own .i32 21 w B' u zs) : ∀ g, v.ownBlock = some g → u.ownBlock ≠ some g := by
  intro g h1 h2
  obtain ⟨_, h | ⟨g1, cap1, cur1, rfl, _, hh1, _⟩⟩ := h
  · rw [h.1] at h1; cases h1
  · obtain ⟨_, k | ⟨g2, cap2, cur2, rfl, _, hh2, _⟩⟩ := k
    · rw [k.1] at h2; cases h2
    · simp [Value.ownBlock] at h1 h2
      subst h1 h2
      rw [hh1] at hh2
      cases hh2
/-- a column slice: nil, or a slice of the call's own -/
def Sl (w : World) (B : Nat) (v : Value) (c : Option (List Int)) : Prop := (c = none ∧ v = .slice none 0 0) ∨ ∃ zs, c = some zs ∧ Own .i32 21 w B v zs ∧ ∃ g, v.ownBlock = some g
theorem Sl.gb {w w' : World} {B : Nat} {v : Value} {c : Option (List Int)} {r : Option Nat} (h : Sl w B v c) (hg : w.grownBy w' r) (hne : v.ownBlock = none ∨ v.ownBlock ≠ r) : Sl w' B v c := by
  rcases h with h | ⟨zs, h1, h2, h3⟩
  · exact .inl h
  · exact .inr ⟨zs, h1, h2.gb hg hne, h3⟩
/-- 'append(tables, t)' -/
theorem wpList_pushB {P : Program} (w : World) {ops : Array Oper} {rest : List Oper} {o : Oper} {a : Act} {Q : Exit → Act → World → Prop} (hgd : o.guard = none) (s x : Operand) (t : TypeId)
    (ho : o.op = .call { callee := .builtin .append, args := #[s, x], argTypes := #[t, t] }) (B : Nat) (ht : P.underlying t = some (.slice 87)) (bytes : Nat) (z : Value) (hz3 : z.cells.size = 3)
    (hinfo : (P.info? 87).map (fun i => (i.zero, i.size, i.bytes)) = some (some z, 3, bytes)) (v : Value) (ts : List Tb) (tb : Tb) (hs : a.eval s = v) (hown : OwnB w B v ts)
    (g : Nat) (hx : a.eval x = .slice (some ⟨g, 0, none⟩) 1 1) (hb : Blk w g 87 tb.cells.toArray) (h63 : ts.length + 1 ≤ maxLen) (hby : (ts.length + 1) * bytes ≤ 140737488355328) (hB : B ≤ w.heap.size)
    (h : ∀ v' w', OwnB w' B v' (ts ++ [tb]) → w.grownBy w' v.ownBlock → (v'.ownBlock = v.ownBlock ∨ v'.ownBlock = some w.heap.size) → wpList P ops Q rest (a.put o.dst v') w') : wpList P ops Q (o :: rest) a w := by
  obtain ⟨i0, hi, hz0, hz1, hz2⟩ := info_parts hinfo
  refine wpList_append_own_at _ hgd s x t ho B 87 i0 z 3 bytes ht hi hz0 hz1 hz2 hz3 (by decide) v ts.length (tbRow ts) hs hown ⟨g, 0, none⟩ 1 1 tb.cells hx rfl ?_ (fun u hu => ?_) h63 hby hB ?_
  · intro j u hj
    have e : (⟨g, 0, none⟩ : Addr).add j = ⟨g, j, none⟩ := by unfold Addr.add; split <;> simp_all
    rw [e, hb.cell j, ← hj]; simp
  · simp only [Tb.cells, List.mem_cons, List.not_mem_nil, or_false] at hu
    rcases hu with rfl | rfl | rfl <;> rfl
  · intro v' w' h1 h2 h3 h4
    refine h v' w' ?_ h2 h4
    show w'.ownsRow B 87 3 v' (ts ++ [tb]).length (tbRow (ts ++ [tb]))
    rw [tbRow_snoc, List.length_append]; exact h1
/-- table k against line k: its start, its columns, its offset; its column block lies below B2 -/
def Tabs (s : ByteArray) (w : World) (B B2 : Nat) (ts : List Tb) (ls : List (Nat × Nat)) : Prop := ts.length = ls.length ∧ ∀ k, (h : k < ts.length) → (h' : k < ls.length) → (ts[k]'h).st = (ls[k]'h').1 ∧ ∃ c, Sl w B (ts[k]'h).v c ∧ Entry s (ls[k]'h').1 (ls[k]'h').2 c (ts[k]'h).f ∧ ∀ g, (ts[k]'h).v.ownBlock = some g → g < B2
theorem Tabs.nil (s : ByteArray) (w : World) (B B2 : Nat) : Tabs s w B B2 [] [] := ⟨rfl, fun k h => absurd h (by simp)⟩
theorem Tabs.gb {s : ByteArray} {w w' : World} {B B2 : Nat} {ts : List Tb} {ls : List (Nat × Nat)} {r : Option Nat} (h : Tabs s w B B2 ts ls) (hg : w.grownBy w' r) (hr : ∀ k, (hk : k < ts.length) → (ts[k]'hk).v.ownBlock = none ∨ (ts[k]'hk).v.ownBlock ≠ r) : Tabs s w' B B2 ts ls := by
  refine ⟨h.1, fun k hk hk' => ?_⟩
  obtain ⟨h1, c, h2, h3, h4⟩ := h.2 k hk hk'
  exact ⟨h1, c, h2.gb hg (hr k hk), h3, h4⟩
theorem Tabs.mono {s : ByteArray} {w : World} {B B2 B3 : Nat} {ts : List Tb} {ls : List (Nat × Nat)} (h : Tabs s w B B2 ts ls) (hB : B2 ≤ B3) : Tabs s w B B3 ts ls := by
  refine ⟨h.1, fun k hk hk' => ?_⟩
  obtain ⟨h1, c, h2, h3, h4⟩ := h.2 k hk hk'
  exact ⟨h1, c, h2, h3, fun g e => Nat.lt_of_lt_of_le (h4 g e) hB⟩
theorem Tabs.snoc {s : ByteArray} {w : World} {B B2 : Nat} {ts : List Tb} {ls : List (Nat × Nat)} (h : Tabs s w B B2 ts ls) (t : Tb) (st e : Nat) (c : Option (List Int)) (h1 : t.st = st) (h2 : Sl w B t.v c) (h3 : Entry s st e c t.f) (h4 : ∀ g, t.v.ownBlock = some g → g < B2) : Tabs s w B B2 (ts ++ [t]) (ls ++ [(st, e)]) := by
  refine ⟨by simp [h.1], fun k hk hk' => ?_⟩
  rw [List.length_append] at hk
  have hl := h.1
  rcases (show k < ts.length ∨ k = ts.length by simp at hk; omega) with c1 | c1
  · rw [List.getElem_append_left c1, List.getElem_append_left (by omega)]
    exact h.2 k c1 (by omega)
  · subst c1
    rw [List.getElem_append_right (Nat.le_refl _), List.getElem_append_right (by omega)]
    simp only [Nat.sub_self, List.getElem_cons_zero, hl]
    exact ⟨h1, c, h2, h3, h4⟩
end Go.Proofs.YtfbeeekakfllpaaDoor
