/-
  Slices of integers of the call's own that grow by append: what is owned ('Own'), what may have turned on the way ('Gr'), and 'append(v, x)' of one element in these words. No statement of the seat is proved here.
-/
import Derived.Test.YtfbeeekakfllpaaDoorInts
import Derived.Maps.AppendAt
namespace Go.Proofs.YtfbeeekakfllpaaDoor
open Go.RowKit

def row (k : IntKind) (zs : List Int) : List Value := zs.map (Value.int k)
theorem row_length (k : IntKind) (zs : List Int) : (row k zs).length = zs.length := by simp [row]
theorem row_app (k : IntKind) (xs ys : List Int) : row k (xs ++ ys) = row k xs ++ row k ys := by simp [row]
theorem row_at (k : IntKind) (zs : List Int) (i : Nat) (h : i < zs.length) : (row k zs)[i]? = some (.int k (nth zs i)) := by simp [row, nth, h]

/-- v is nil (zs empty), or a slice from the head of a block (number at least B) of elements e, that reads as zs -/
def Own (k : IntKind) (e : TypeId) (w : World) (B : Nat) (v : Value) (zs : List Int) : Prop := w.ownsRow B e 1 v zs.length (row k zs)
theorem Own.nil (k : IntKind) (e : TypeId) (w : World) (B : Nat) : Own k e w B (.slice none 0 0) [] := World.ownsRow_nil w B e 1
theorem Own.lt {k : IntKind} {e : TypeId} {w : World} {B : Nat} {v : Value} {zs : List Int} (h : Own k e w B v zs) : ∀ g, v.ownBlock = some g → B ≤ g ∧ g < w.heap.size := World.ownsRow.lt h
theorem Own.alloc {k : IntKind} {e : TypeId} {w : World} {B : Nat} {v : Value} {zs : List Int} (h : Own k e w B v zs) (o : Obj) : Own k e (w.alloc o) B v zs := World.ownsRow.alloc h o
theorem Own.drew {k : IntKind} {e : TypeId} {w : World} {B : Nat} {v : Value} {zs : List Int} (h : Own k e w B v zs) : Own k e w.drew B v zs := h
theorem Own.kept {k : IntKind} {e : TypeId} {w w' : World} {B : Nat} {v : Value} {zs : List Int} (h : Own k e w B v zs) (hb : Below w.heap.size w w') : Own k e w' B v zs :=
  World.ownsRow.kept h ⟨hb.os, hb.tape, hb.output, hb.size, fun i hi _ => hb.block i hi⟩ (row := none) (by cases v.ownBlock <;> simp)
theorem Own.gb {k : IntKind} {e : TypeId} {w w' : World} {B : Nat} {v : Value} {zs : List Int} {r : Option Nat} (h : Own k e w B v zs) (hg : w.grownBy w' r) (hne : v.ownBlock = none ∨ v.ownBlock ≠ r) : Own k e w' B v zs := World.ownsRow.kept h hg hne
theorem Own.mono {k : IntKind} {e : TypeId} {w : World} {B B' : Nat} {v : Value} {zs : List Int} (h : Own k e w B v zs) (hB : B' ≤ B) : Own k e w B' v zs := by
  obtain ⟨h1, h2⟩ := h
  refine ⟨h1, ?_⟩
  rcases h2 with h | ⟨g, cap, cur, a, b, c⟩
  · exact .inl h
  · exact .inr ⟨g, cap, cur, a, Nat.le_trans hB b, c⟩
theorem Own.form {k : IntKind} {e : TypeId} {w : World} {B : Nat} {v : Value} {zs : List Int} (h : Own k e w B v zs) :
    ∃ ao cap, v = .slice ao zs.length cap ∧ In k w ao zs ∧ zs.length ≤ cap ∧ ((ao = none ∧ zs = [] ∧ cap = 0) ∨ ∃ g, ao = some ⟨g, 0, none⟩ ∧ B ≤ g ∧ g < w.heap.size) := by
  obtain ⟨h1, h2⟩ := h
  rcases h2 with ⟨rfl, h0⟩ | ⟨g, cap, cur, rfl, hB, hh, hc, hm, hs, ht⟩
  · have hz : zs = [] := List.eq_nil_of_length_eq_zero h0
    subst hz
    exact ⟨none, 0, rfl, .inl rfl, Nat.le_refl _, .inl ⟨rfl, rfl, rfl⟩⟩
  · refine ⟨_, cap, rfl, .inr ⟨g, 0, rfl, blk_lt hh, fun i hi => ?_⟩, hc, .inr ⟨g, rfl, hB, blk_lt hh⟩⟩
    rw [Nat.zero_add, blk_cell hh i]
    have := row_at k zs i hi
    rw [← ht, List.getElem?_take, if_pos (by omega)] at this
    simpa using this
theorem Own.of_blk {k : IntKind} {e : TypeId} {w : World} {B g : Nat} {zs : List Int} (h : Blk w g e (ints k zs)) (hB : B ≤ g) (hm : zs.length ≤ maxLen) : Own k e w B (.slice (some ⟨g, 0, none⟩) zs.length zs.length) zs :=
  ⟨by simp [row], .inr ⟨g, zs.length, _, rfl, hB, h, Nat.le_refl _, hm, by simp [ints], by rw [List.take_of_length_le (by simp [ints])]; simp [ints, row]⟩⟩

/-- what one or more appends to v may have turned: new blocks, and the block of v; the new value lies there or in a new block -/
def Gr (w : World) (v : Value) (w' : World) (v' : Value) : Prop := w.grownBy w' v.ownBlock ∧ (v'.ownBlock = v.ownBlock ∨ ∃ g, v'.ownBlock = some g ∧ w.heap.size ≤ g)
theorem Gr.refl (w : World) (v : Value) : Gr w v w v := ⟨gb_refl _ _, .inl rfl⟩
theorem Gr.trans {a b c : World} {u v x : Value} (h : Gr a u b v) (h' : Gr b v c x) : Gr a u c x := by
  obtain ⟨h1, h2⟩ := h
  obtain ⟨k1, k2⟩ := h'
  refine ⟨⟨k1.os.trans h1.os, k1.tape.trans h1.tape, k1.output.trans h1.output, Nat.le_trans h1.size k1.size, fun i hi hne => ?_⟩, ?_⟩
  · refine (k1.block i (Nat.lt_of_lt_of_le hi h1.size) ?_).trans (h1.block i hi hne)
    rcases h2 with e | ⟨g, e, hg⟩
    · rw [e]; exact hne
    · rw [e]; intro c; cases c; omega
  · rcases k2 with e | ⟨g, e, hg⟩
    · rw [e]; exact h2
    · exact .inr ⟨g, e, Nat.le_trans h1.size hg⟩
theorem Gr.below {B : Nat} {a w w' : World} {v v' : Value} (h : Gr w v w' v') (hb : Below B a w) (hB : B ≤ w.heap.size) (hv : ∀ g, v.ownBlock = some g → B ≤ g) : Below B a w' := hb.grown h.1 hB hv
theorem Gr.alloc {w w' : World} {v v' : Value} (o : Obj) (h : Gr (w.alloc o) v w' v') : Gr w v w' v' :=
  ⟨gb_trans (World.grownBy_alloc w o _) h.1, h.2.imp id (fun ⟨g, e, hg⟩ => ⟨g, e, by simp at hg; omega⟩)⟩

/-- 'append(v, z)', one integer: the row is longer by z -/
theorem wpList_push {P : Program} (w0 : World) {ops : Array Oper} {rest : List Oper} {o : Oper} {a : Act} {Q : Exit → Act → World → Prop} (hgd : o.guard = none) (s x : Operand) (t : TypeId)
    (ho : o.op = .call { callee := .builtin .append, args := #[s, x], argTypes := #[t, t] }) (B : Nat) (e : TypeId) (k : IntKind) (bytes : Nat) (ht : P.underlying t = some (.slice e))
    (hinfo : (P.info? e).map (fun i => (i.zero, i.size, i.bytes)) = some (some (.int k 0), 1, bytes)) (v : Value) (zs : List Int) (z : Int) (hs : a.eval s = v) (hown : Own k e w0 B v zs)
    (hx : a.eval x = .slice (some ⟨w0.heap.size, 0, none⟩) 1 1) (h63 : zs.length + 1 ≤ maxLen) (hby : (zs.length + 1) * bytes ≤ 140737488355328) (hB : B ≤ w0.heap.size)
    (h : ∀ v' w', Own k e w' B v' (zs ++ [z]) → Gr w0 v w' v' → v' ≠ .slice none 0 0 → wpList P ops Q rest (a.put o.dst v') w') : wpList P ops Q (o :: rest) a (w0.alloc (.cells #[.int k z] e)) := by
  obtain ⟨i0, hi, hz0, hz1, hz2⟩ := info_parts hinfo
  refine wpList_append_own_at _ hgd s x t ho B e i0 (.int k 0) 1 bytes ht hi hz0 hz1 hz2 rfl (by decide) v zs.length (row k zs) hs (World.ownsRow.alloc hown _) ⟨w0.heap.size, 0, none⟩ 1 1 [.int k z] hx rfl ?_ (fun u hu => by simp at hu; subst hu; rfl) h63 hby (by simp; omega) ?_
  · intro j u hj
    match j, hj with
    | 0, hj => simp at hj; subst hj; rw [show (⟨w0.heap.size, 0, none⟩ : Addr).add 0 = ⟨w0.heap.size, 0, none⟩ from rfl]; rw [blk_cell (blk_new w0 _) 0]; rfl
  · intro v' w' h1 h2 h3 h4
    refine h v' w' ?_ ⟨gb_trans (World.grownBy_alloc w0 _ _) h2, ?_⟩ (fun c => by have := (h3.1 c).2; omega)
    · show w'.ownsRow B e 1 v' (zs ++ [z]).length (row k (zs ++ [z]))
      rw [row_app, List.length_append]; exact h1
    · rcases h4 with h4 | h4
      · exact .inl h4
      · exact .inr ⟨_, h4, by simp⟩

/-- what a clone hands back, in the words of 'Own' -/
def Owned (k : IntKind) (e : TypeId) (w : World) (zs : List Int) (en : Ending) (w' : World) : Prop := ∃ v, en = .returned v ∧ Own k e w' w.heap.size v zs ∧ Below w.heap.size w w'
end Go.Proofs.YtfbeeekakfllpaaDoor
