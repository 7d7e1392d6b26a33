/-
  The frame of a call that may turn one block of its own receiver, the block of a slice, and new blocks. No statement of the seat is proved here.
-/
import Derived.Test.YtoegmcakolidbaaDoorOwn
import Derived.Deep.Draws
namespace Go.Proofs.YtoegmcakolidbaaDoor
open Go.RowKit
set_option linter.unusedVariables false
/-- what a call may have turned: block g, the block of v, new blocks -/
structure Fr (w : World) (g : Nat) (v : Value) (w' : World) (v' : Value) : Prop where
  os : w'.os = w.os
  tape : w'.tape = w.tape
  output : w'.output = w.output
  size : w.heap.size ≤ w'.heap.size
  block : ∀ i, i < w.heap.size → i ≠ g → v.ownBlock ≠ some i → w'.heap[i]? = w.heap[i]?
  nw : v'.ownBlock = v.ownBlock ∨ ∃ x, v'.ownBlock = some x ∧ w.heap.size ≤ x
theorem Fr.refl (w : World) (g : Nat) (v : Value) : Fr w g v w v := ⟨rfl, rfl, rfl, Nat.le_refl _, fun _ _ _ _ => rfl, .inl rfl⟩
theorem Fr.trans {a b c : World} {g : Nat} {u v x : Value} (h : Fr a g u b v) (k : Fr b g v c x) : Fr a g u c x := by
  refine ⟨k.os.trans h.os, k.tape.trans h.tape, k.output.trans h.output, Nat.le_trans h.size k.size, fun i hi h1 h2 => ?_, ?_⟩
  · refine (k.block i (Nat.lt_of_lt_of_le hi h.size) h1 ?_).trans (h.block i hi h1 h2)
    rcases h.nw with e | ⟨y, e, hy⟩
    · rw [e]; exact h2
    · rw [e]; intro c; cases c; omega
  · rcases k.nw with e | ⟨y, e, hy⟩
    · rw [e]; exact h.nw
    · exact .inr ⟨y, e, Nat.le_trans h.size hy⟩
theorem Fr.of_gr {w w' : World} {g : Nat} {v v' : Value} (h : Gr w v w' v') : Fr w g v w' v' :=
  ⟨h.1.os, h.1.tape, h.1.output, h.1.size, fun i hi _ h2 => h.1.block i hi (fun e => h2 e.symm), h.2⟩
theorem Fr.set {w : World} {g : Nat} (v : Value) (i : Nat) (x : Value) : Fr w g v (w.setCell ⟨g, i, none⟩ x) v := by
  have hg : w.grownBy (w.setCell ⟨g, i, none⟩ x) (some g) := gb_set (gb_refl _ _) i none _
  exact ⟨hg.os, hg.tape, hg.output, hg.size, fun k hk h1 _ => hg.block k hk (fun e => by cases e; exact h1 rfl), .inl rfl⟩
theorem Fr.alloc {w : World} {g : Nat} (v : Value) (o : Obj) : Fr w g v (w.alloc o) v := Fr.of_gr ⟨World.grownBy_alloc w o _, .inl rfl⟩
theorem Fr.drewN {w : World} {g : Nat} (v : Value) (m : Nat) : Fr w g v (w.drewN m) v := ⟨rfl, rfl, rfl, Nat.le_refl _, fun _ _ _ _ => rfl, .inl rfl⟩
/-- a block that was new at the start is turned -/
theorem Fr.setNew {w0 w : World} {g : Nat} {v v' : Value} (h : Fr w0 g v w v') (b i : Nat) (x : Value) (hb : w0.heap.size ≤ b) : Fr w0 g v (w.setCell ⟨b, i, none⟩ x) v' := by
  have hg : w.grownBy (w.setCell ⟨b, i, none⟩ x) (some b) := gb_set (gb_refl _ _) i none _
  exact ⟨hg.os.trans h.os, hg.tape.trans h.tape, hg.output.trans h.output, Nat.le_trans h.size hg.size, fun k hk h1 h2 => (hg.block k (Nat.lt_of_lt_of_le hk h.size) (fun e => by cases e; omega)).trans (h.block k hk h1 h2), h.nw⟩
/-- a slice of the call's own from w0 on: the new value's block is told -/
theorem Fr.own {w w' : World} {g B : Nat} {v v' u : Value} {k : IntKind} {e : TypeId} {zs : List Int} (h : Fr w g v w' v') (ho : Own k e w B u zs) (h1 : ∀ x, u.ownBlock = some x → x ≠ g ∧ v.ownBlock ≠ some x) : Own k e w' B u zs := by
  obtain ⟨k1, k2⟩ := ho
  refine ⟨k1, k2.imp id ?_⟩
  rintro ⟨q, cap, cur, rfl, hB, hh, hr⟩
  exact ⟨q, cap, cur, rfl, hB, (h.block q (blk_lt hh) (h1 q rfl).1 (h1 q rfl).2).trans hh, hr⟩
theorem Fr.blk {w w' : World} {g : Nat} {v v' : Value} {b : Nat} {t : TypeId} {cs : Array Value} (h : Fr w g v w' v') (hb : Blk w b t cs) (h1 : b ≠ g) (h2 : v.ownBlock ≠ some b) : Blk w' b t cs := (h.block b hb.lt h1 h2).trans hb
end Go.Proofs.YtoegmcakolidbaaDoor
