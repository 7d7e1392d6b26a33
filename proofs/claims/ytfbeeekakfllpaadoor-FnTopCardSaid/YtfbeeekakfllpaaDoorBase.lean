/-
  Small facts that the proofs of this seat share: endings, blocks of cells, frames, bytes and UTF-8. No statement of the seat is proved here.
-/
import Derived.WalkKit
import Derived.ProofKit
import Derived.Below
import Derived.Lib.Hide
import Derived.Lib.DecodeN
import Derived.Laws.RangeAny
import Derived.Deep.WholeRow
namespace Go.Proofs.YtfbeeekakfllpaaDoor
open Go.RowKit

theorem ret_bool {a b : Bool} (h : a = b) : Ending.returned (.bool a) = .returned (.bool b) := by rw [h]
theorem ret_int {k : IntKind} {a b : Int} (h : a = b) : Ending.returned (.int k a) = .returned (.int k b) := by rw [h]

/-! blocks -/
theorem blk_cell {w : World} {b : Nat} {cs : Array Value} {t : TypeId} {fr : Nat × Nat} (h : w.heap[b]? = some (.cells cs t fr)) (i : Nat) : w.cell? ⟨b, i, none⟩ = cs[i]? := by
  simp [World.cell?, h]
theorem blk_free {w : World} {b : Nat} {cs : Array Value} {t : TypeId} (h : w.heap[b]? = some (.cells cs t (0, 0))) (i : Nat) : w.frozen? ⟨b, i, none⟩ = false := by
  simp [World.frozen?, h]
theorem blk_lt {w : World} {b : Nat} {o : Obj} (h : w.heap[b]? = some o) : b < w.heap.size := (Array.getElem?_eq_some_iff.1 h).1
theorem blk_alloc {w : World} {b : Nat} {o : Obj} (h : w.heap[b]? = some o) (o' : Obj) : (w.alloc o').heap[b]? = some o := by
  rw [Below.heap_alloc _ _ _ (blk_lt h)]; exact h
theorem blk_new (w : World) (o : Obj) : (w.alloc o).heap[w.heap.size]? = some o := by
  show (w.heap.push o)[w.heap.size]? = _; simp
theorem blk_set {w : World} {b : Nat} {cs : Array Value} {t : TypeId} {fr : Nat × Nat} (h : w.heap[b]? = some (.cells cs t fr)) (i : Nat) (v : Value) :
    (w.setCell ⟨b, i, none⟩ v).heap[b]? = some (.cells (cs.setIfInBounds i v) t fr) := by
  simp [World.setCell, Array.getElem?_modify, h]
theorem blk_set_ne {w : World} {b b' : Nat} {o : Obj} (h : w.heap[b]? = some o) (hne : b ≠ b') (i : Nat) (s : Option Nat) (v : Value) :
    (w.setCell ⟨b', i, s⟩ v).heap[b]? = some o := by
  rw [Below.heap_setCell _ _ _ _ hne]; exact h
theorem blk_drew {w : World} {b : Nat} {o : Obj} (h : w.heap[b]? = some o) : w.drew.heap[b]? = some o := h

/-! 'grownBy': new blocks, and one written block -/
theorem gb_refl (w : World) (row : Option Nat) : w.grownBy w row := ⟨rfl, rfl, rfl, Nat.le_refl _, fun _ _ _ => rfl⟩
theorem gb_trans {a b c : World} {row : Option Nat} (h : a.grownBy b row) (k : b.grownBy c row) : a.grownBy c row :=
  ⟨k.os.trans h.os, k.tape.trans h.tape, k.output.trans h.output, Nat.le_trans h.size k.size, fun i hi hne => (k.block i (Nat.lt_of_lt_of_le hi h.size) hne).trans (h.block i hi hne)⟩
theorem gb_alloc {a w : World} {row : Option Nat} (h : a.grownBy w row) (o : Obj) : a.grownBy (w.alloc o) row := gb_trans h (World.grownBy_alloc w o row)
theorem gb_drew {a w : World} {row : Option Nat} (h : a.grownBy w row) : a.grownBy w.drew row := ⟨h.os, h.tape, h.output, h.size, h.block⟩
theorem gb_set {a w : World} {b : Nat} (h : a.grownBy w (some b)) (i : Nat) (s : Option Nat) (v : Value) : a.grownBy (w.setCell ⟨b, i, s⟩ v) (some b) :=
  gb_trans h ⟨rfl, rfl, rfl, by simp [World.setCell], fun k _ hne => Below.heap_setCell _ _ _ _ (fun e => hne (by rw [e]))⟩
theorem gb_blk {w w' : World} {k : Nat} {row : Option Nat} {o : Obj} (hg : w.grownBy w' row) (h : w.heap[k]? = some o) (hne : some k ≠ row) : w'.heap[k]? = some o :=
  (hg.block k (blk_lt h) hne).trans h
theorem below_gb {B : Nat} {a w w' : World} {b : Nat} (h : Below B a w) (hg : w.grownBy w' (some b)) (hB : B ≤ w.heap.size) (hb : B ≤ b) : Below B a w' :=
  h.grown hg hB (fun k e => by cases e; exact hb)
theorem below_two {w a b : World} (h : Below w.heap.size w a) (k : Below a.heap.size a b) : Below w.heap.size w b := h.trans (k.mono h.size)
theorem below_blk {B : Nat} {w w' : World} {k : Nat} {o : Obj} (hb : Below B w w') (h : w.heap[k]? = some o) (hk : k < B) : w'.heap[k]? = some o := (hb.block k hk).trans h

/-- block b holds the cells cs (of type t), none frozen -/
def Blk (w : World) (b : Nat) (t : TypeId) (cs : Array Value) : Prop := w.heap[b]? = some (.cells cs t (0, 0))
theorem Blk.lt {w : World} {b : Nat} {t : TypeId} {cs : Array Value} (h : Blk w b t cs) : b < w.heap.size := blk_lt h
theorem Blk.cell {w : World} {b : Nat} {t : TypeId} {cs : Array Value} (h : Blk w b t cs) (i : Nat) : w.cell? ⟨b, i, none⟩ = cs[i]? := blk_cell h i
theorem Blk.free {w : World} {b : Nat} {t : TypeId} {cs : Array Value} (h : Blk w b t cs) (i : Nat) : w.frozen? ⟨b, i, none⟩ = false := blk_free h i
theorem Blk.alloc {w : World} {b : Nat} {t : TypeId} {cs : Array Value} (h : Blk w b t cs) (o : Obj) : Blk (w.alloc o) b t cs := blk_alloc h o
theorem Blk.new (w : World) (t : TypeId) (cs : Array Value) : Blk (w.alloc (.cells cs t)) w.heap.size t cs := blk_new w _
theorem Blk.drew {w : World} {b : Nat} {t : TypeId} {cs : Array Value} (h : Blk w b t cs) : Blk w.drew b t cs := h
theorem Blk.below {w w' : World} {B b : Nat} {t : TypeId} {cs : Array Value} (h : Blk w b t cs) (hb : Below B w w') (hk : b < B) : Blk w' b t cs := below_blk hb h hk
theorem Blk.kept {w w' : World} {b : Nat} {t : TypeId} {cs : Array Value} (h : Blk w b t cs) (hb : Below w.heap.size w w') : Blk w' b t cs := below_blk hb h h.lt
theorem Blk.gb {w w' : World} {b : Nat} {t : TypeId} {cs : Array Value} {row : Option Nat} (h : Blk w b t cs) (hg : w.grownBy w' row) (hne : some b ≠ row) : Blk w' b t cs := gb_blk hg h hne
theorem Blk.set {w : World} {b : Nat} {t : TypeId} {cs : Array Value} (h : Blk w b t cs) (i : Nat) (v : Value) : Blk (w.setCell ⟨b, i, none⟩ v) b t (cs.setIfInBounds i v) := blk_set h i v
theorem Blk.two {w : World} {b : Nat} {t : TypeId} {x y : Value} (h : Blk w b t #[x, y]) : w.cell? ⟨b, 0, none⟩ = some x ∧ w.cell? ⟨b, 1, none⟩ = some y ∧ b < w.heap.size := ⟨h.cell 0, h.cell 1, h.lt⟩
theorem below_new {w w' : World} (o : Obj) (h : Below (w.alloc o).heap.size (w.alloc o) w') : Below w.heap.size w w' :=
  ((Below.refl _ w).alloc (Nat.le_refl _) o).trans (h.mono (by simp))
theorem below_then {B : Nat} {a w w' : World} (h : Below B a w) (k : Below w.heap.size w w') (hB : B ≤ w.heap.size) : Below B a w' := h.trans (k.mono hB)

/-! a cell's fact over stores elsewhere, new blocks, draws -/
theorem cell_sn {w : World} {b b' i j : Nat} {s : Option Nat} {x : Option Value} {v : Value} (h : w.cell? ⟨b, i, none⟩ = x) (hne : ¬ b = b') : (w.setCell ⟨b', j, s⟩ v).cell? ⟨b, i, none⟩ = x :=
  (World.cell?_of_block (w := w) (Below.heap_setCell _ _ _ _ hne)).trans h
theorem cell_al {w : World} {b i : Nat} {x : Value} {o : Obj} (h : w.cell? ⟨b, i, none⟩ = some x) : (w.alloc o).cell? ⟨b, i, none⟩ = some x :=
  (World.cell?_of_block (w := w) (Below.heap_alloc _ _ _ (World.block_lt_of_cell? w _ h))).trans h
theorem cell_dr {w : World} {a : Addr} {x : Option Value} (h : w.cell? a = x) : w.drew.cell? a = x := h

/-! bytes of a string -/
theorem take_snoc (s : ByteArray) (k : Nat) (h : k < s.size) : s.data.toList.take (k + 1) = s.data.toList.take k ++ [s[k]] := by
  rw [List.take_succ_eq_append_getElem (by simpa using h)]; rfl
theorem take_all (s : ByteArray) (k : Nat) (h : s.size ≤ k) : s.data.toList.take k = s.data.toList := List.take_of_length_le (by simpa using h)
theorem get!_at (s : ByteArray) (i : Nat) (h : i < s.size) : s.get! i = s[i]'h := get_at s i h
theorem get!_out (s : ByteArray) (i : Nat) (h : s.size ≤ i) : s.get! i = 0 := by
  have : ¬ i < s.data.size := by simpa using h
  show s.data[i]! = 0
  rw [getElem!_neg s.data i this]; rfl

/-- Every byte that one step of the decoder takes, at a lead byte of 128 or more, is 128 or more and lies inside the string. -/
theorem high_bytes (s : ByteArray) (pos : Nat) (h : pos < s.size) (ha : 128 ≤ (s[pos]'h).toNat) :
    pos + (Utf8.decode s pos).2 ≤ s.size ∧ ∀ j, pos ≤ j → j < pos + (Utf8.decode s pos).2 → 128 ≤ (s.get! j).toNat := by
  rw [Lib.decode_at]
  have e0 := get!_at s pos h
  have a0 : 128 ≤ (s.get! pos).toNat := by rw [e0]; exact ha
  generalize hn : s.size - pos = n
  generalize h1 : (s.get! (pos + 1)).toNat = b1
  generalize h2 : (s.get! (pos + 2)).toNat = b2
  generalize h3 : (s.get! (pos + 3)).toNat = b3
  have key : ∀ k : Nat, k ≤ n → (1 < k → 128 ≤ b1) → (2 < k → 128 ≤ b2) → (3 < k → 128 ≤ b3) → k ≤ 4 → pos + k ≤ s.size ∧ ∀ j, pos ≤ j → j < pos + k → 128 ≤ (s.get! j).toNat := by
    intro k hk c1 c2 c3 h4
    refine ⟨by omega, fun j hj hjk => ?_⟩
    rcases (show j = pos ∨ j = pos + 1 ∨ j = pos + 2 ∨ j = pos + 3 by omega) with rfl | rfl | rfl | rfl
    · exact a0
    · rw [h1]; exact c1 (by omega)
    · rw [h2]; exact c2 (by omega)
    · rw [h3]; exact c3 (by omega)
  unfold Lib.decodeN
  repeat' split
  all_goals (apply key <;> simp only <;> omega)

theorem width_pos (s : ByteArray) (pos : Nat) (h : pos < s.size) : 1 ≤ (Utf8.decode s pos).2 := by
  by_cases ha : (s[pos]'h).toNat < 128
  · rw [decode_ascii s pos h ha]; exact Nat.le_refl _
  · exact (decode_high s pos h (by omega)).2

theorem take_next (s : ByteArray) (a n : Nat) (h : a + n ≤ s.size) : s.data.toList.take (a + n) = s.data.toList.take a ++ (List.range n).map (fun i => s.get! (a + i)) := by
  induction n with
  | zero => simp
  | succ n ih =>
    rw [← Nat.add_assoc, take_snoc s (a + n) (by omega), ih (by omega), List.range_succ, List.map_append, List.append_assoc]
    simp [get!_at s (a + n) (by omega)]
/-! a struct literal whose cells stay behind a name -/
theorem wpList_build {P : Program} {ops : Array Oper} {rest : List Oper} {o : Oper} {a : Act} {w : World} {Q : Exit → Act → World → Prop} (hgd : o.guard = none) (t : TypeId) (parts : Array (Nat × Operand)) (ho : o.op = .build t parts)
    (vals : List (Nat × Value)) (hv : (parts.toList.map fun p => (p.1, a.eval p.2)) = vals) (cs : Array Value) (hb : ∀ w, (Instr.build t vals.toArray).run P w = .ok (.agg cs) w)
    (h : wpList P ops Q rest (a.put o.dst (.agg cs)) w) : wpList P ops Q (o :: rest) a w :=
  wpList_plain hgd fun _ hK => by
    have hv' : (parts.map fun (i, x) => (i, a.eval x)) = vals.toArray := by rw [← hv]; apply Array.ext'; simp
    unfold Oper.wp execOp
    simp only [ho, hv', hb, Sem.run_bind, Result.andThen_ok]
    exact hK _ _ h

/-- a struct variable is declared: its zero cells stay behind a name -/
theorem wpList_alloc_zero {P : Program} {ops : Array Oper} {rest : List Oper} {o : Oper} {a : Act} {w : World} {Q : Exit → Act → World → Prop} (hgd : o.guard = none) (t : TypeId) (ho : o.op = .alloc t) (zc : Array Value)
    (hz : ∀ w, (Instr.alloc t true (.tuple #[])).run P w = .ok (.pointer (some ⟨w.heap.size, 0, none⟩)) (w.alloc (.cells zc t)))
    (h : wpList P ops Q rest (a.put o.dst (.pointer (some ⟨w.heap.size, 0, none⟩))) (w.alloc (.cells zc t))) : wpList P ops Q (o :: rest) a w :=
  wpList_plain hgd fun _ hK => by
    unfold Oper.wp execOp
    simp only [ho, hz, Sem.run_bind, Result.andThen_ok]
    exact hK _ _ h
/-- .. and filled whole, right behind -/
theorem wpList_store_new {P : Program} {ops : Array Oper} {rest : List Oper} {o : Oper} {a : Act} {w0 : World} {Q : Exit → Act → World → Prop} (hgd : o.guard = none) (t : TypeId) (x y : Operand) (ho : o.op = .store t x y) (old cells : Array Value)
    (hx : a.eval x = .pointer (some ⟨w0.heap.size, 0, none⟩)) (hy : a.eval y = .agg cells) (hi : (P.info? t).map (·.size) = some cells.size) (hold : old.size = cells.size) (h1 : cells.all (·.oneCell') = true)
    (h : wpList P ops Q rest (a.put o.dst undef) (w0.alloc (.cells cells t))) : wpList P ops Q (o :: rest) a (w0.alloc (.cells old t)) :=
  wpList_plain hgd fun _ hK => by
    unfold Oper.wp execOp
    simp only [ho, hx, hy, run_storeAt_new w0 t old cells hi hold h1, Sem.run_bind, Result.andThen_ok]
    exact hK _ _ h
def cellsOf (r : Result Value) : Array Value := match r with | .ok (.agg cs) _ => cs | _ => #[]
end Go.Proofs.YtfbeeekakfllpaaDoor
