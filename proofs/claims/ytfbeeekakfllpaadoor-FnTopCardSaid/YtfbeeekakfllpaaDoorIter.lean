/-
  A range over a string beside memory that the round writes: the iterator's block in whatever world. No statement of the seat is proved here.
-/
import Derived.Test.YtfbeeekakfllpaaDoorBase
import Derived.Laws.RangeAny
namespace Go.Proofs.YtfbeeekakfllpaaDoor
open Go.RowKit
set_option linter.unusedVariables false
/-- block r is an iterator over s that stands at pos -/
def It (w : World) (r : Nat) (s : ByteArray) (pos : Nat) : Prop := w.heap[r]? = some (.stringIter s pos)
theorem It.lt {w : World} {r : Nat} {s : ByteArray} {pos : Nat} (h : It w r s pos) : r < w.heap.size := blk_lt h
theorem It.gb {w w' : World} {r : Nat} {s : ByteArray} {pos : Nat} {row : Option Nat} (h : It w r s pos) (hg : w.grownBy w' row) (hne : some r ≠ row) : It w' r s pos := gb_blk hg h hne
theorem It.kept {w w' : World} {r : Nat} {s : ByteArray} {pos : Nat} (h : It w r s pos) (hb : Below w.heap.size w w') : It w' r s pos := below_blk hb h h.lt
theorem It.new (w : World) (s : ByteArray) : It (w.iter s 0) w.heap.size s 0 := World.iter_heap w s 0
theorem next_at (P : Program) (w : World) (r : Nat) (s : ByteArray) (pos : Nat) (ty : TypeId) (hr : It w r s pos) (h : pos < s.size) :
    ∃ w', (Instr.next (.pointer (some ⟨r, 0, none⟩)) true ty).run P w = .ok (.tuple #[.bool true, .int .i64 pos, .int .i32 (Utf8.decode s pos).1]) w' ∧ It w' r s (pos + (Utf8.decode s pos).2) ∧ w.grownBy w' (some r) := by
  have hr' : w.heap[r]? = some (.stringIter s pos) := hr
  refine ⟨{ w with heap := w.heap.setIfInBounds r (.stringIter s (pos + (Utf8.decode s pos).2)) }, ?_, ?_, ?_⟩
  · simp only [Instr.next, getObj, setObj, Sem.run_bind, Sem.run, hr', Result.andThen, h, if_true]
    simp [goInt]
  · show (w.heap.setIfInBounds r _)[r]? = _
    rw [Array.getElem?_setIfInBounds, if_pos rfl, if_pos hr.lt]
  · refine ⟨rfl, rfl, rfl, by simp, fun k hk hne => ?_⟩
    show (w.heap.setIfInBounds r _)[k]? = _
    rw [Array.getElem?_setIfInBounds, if_neg (fun e => hne (by rw [e]))]
theorem next_end (P : Program) (w : World) (r : Nat) (s : ByteArray) (pos : Nat) (ty : TypeId) (hr : It w r s pos) (h : ¬ pos < s.size) : (Instr.next (.pointer (some ⟨r, 0, none⟩)) true ty).run P w = .ok (.tuple #[.bool false]) w := by
  have hr' : w.heap[r]? = some (.stringIter s pos) := hr
  simp [Instr.next, getObj, Sem.run, hr', h]
/-- one step of the range -/
theorem wpList_next_at {P : Program} {ops : Array Oper} {rest : List Oper} {o : Oper} {a : Act} {w : World} {Q : Exit → Act → World → Prop} (hgd : o.guard = none) (x : Operand) (ho : o.op = .next x true) (r : Nat) (s : ByteArray) (pos : Nat)
    (hx : a.eval x = .pointer (some ⟨r, 0, none⟩)) (hr : It w r s pos) (h : pos < s.size)
    (hK : ∀ w', It w' r s (pos + (Utf8.decode s pos).2) → w.grownBy w' (some r) → wpList P ops Q rest (a.put o.dst (.tuple #[.bool true, .int .i64 pos, .int .i32 (Utf8.decode s pos).1])) w') : wpList P ops Q (o :: rest) a w :=
  wpList_plain hgd fun _ hK' => by
    obtain ⟨w', h1, h2, h3⟩ := next_at P w r s pos o.type hr h
    unfold Oper.wp execOp
    simp only [ho, hx, h1, Sem.run_bind, Result.andThen_ok]
    exact hK' _ _ (hK w' h2 h3)
theorem wpList_next_end {P : Program} {ops : Array Oper} {rest : List Oper} {o : Oper} {a : Act} {w : World} {Q : Exit → Act → World → Prop} (hgd : o.guard = none) (x : Operand) (ho : o.op = .next x true) (r : Nat) (s : ByteArray) (pos : Nat)
    (hx : a.eval x = .pointer (some ⟨r, 0, none⟩)) (hr : It w r s pos) (h : ¬ pos < s.size)
    (hK : wpList P ops Q rest (a.put o.dst (.tuple #[.bool false])) w) : wpList P ops Q (o :: rest) a w :=
  wpList_plain hgd fun _ hK' => by
    have h1 := next_end P w r s pos o.type hr h
    unfold Oper.wp execOp
    simp only [ho, hx, h1, Sem.run_bind, Result.andThen_ok]
    exact hK' _ _ hK
end Go.Proofs.YtfbeeekakfllpaaDoor
