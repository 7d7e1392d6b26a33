/-
  Steps of a region that draws its order, met by hand: a struct literal whose cells stay behind a name, a struct variable declared, a store over a whole block. No statement of the seat is proved here.
-/
import Derived.Test.YtfbeeekakfllpaaDoorBase
import Derived.Deep.RegionHeld3
import Derived.Deep.MidRow
namespace Go.Proofs.YtfbeeekakfllpaaDoor
open Go.RowKit
set_option linter.unusedVariables false
theorem Blk.range {w : World} {b : Nat} {t : TypeId} {cs : Array Value} (h : Blk w b t cs) : w.rangeAt b 0 cs.toList := fun j v hj => by
  rw [Nat.zero_add, h.cell j]; simpa using hj
theorem yieldsIf_build {P : Program} {ops : Array Oper} {S : World → Prop} {o : Oper} {a : Act} (hw : Region.wanted o (yielded ops a.tmps) = true) (t : TypeId) (parts : Array (Nat × Operand)) (ho : o.op = .build t parts)
    (vals : List (Nat × Value)) (hv : (parts.toList.map fun p => (p.1, a.eval p.2)) = vals) (cs : Array Value) (hb : ∀ w, (Instr.build t vals.toArray).run P w = .ok (.agg cs) w) : YieldsIf P ops S o (.agg cs) a :=
  .inl ⟨hw, fun w _ => by
    have hv' : (parts.map fun (i, x) => (i, a.eval x)) = vals.toArray := by rw [← hv]; apply Array.ext'; simp
    unfold execOp
    simp only [ho, hv', hb, Sem.run_bind, Result.andThen_ok]
    rfl⟩
theorem step_alloc_zero {P : Program} {ops : Array Oper} {o : Oper} {a : Act} {w : World} {K : Act → World → Prop} {Q : Exit → Act → World → Prop} {E : Prop} (hw : Region.wanted o (yielded ops a.tmps) = true) (t : TypeId) (ho : o.op = .alloc t) (zc : Array Value)
    (hz : ∀ w, (Instr.alloc t true (.tuple #[])).run P w = .ok (.pointer (some ⟨w.heap.size, 0, none⟩)) (w.alloc (.cells zc t)))
    (h : K (a.put o.dst (.pointer (some ⟨w.heap.size, 0, none⟩))) (w.alloc (.cells zc t))) : if Region.wanted o (yielded ops a.tmps) = true then Oper.wp P o a w K Q else E := by
  rw [if_pos hw]
  unfold Oper.wp execOp
  simp only [ho, hz, Sem.run_bind, Result.andThen_ok]
  exact h
theorem setCells_blk {b : Nat} {t : TypeId} : ∀ (vs : List Value) (o : Nat) (w : World) (cs : Array Value), Blk w b t cs → o + vs.length = cs.size → Blk (w.setCells b o vs) b t ((cs.toList.take o ++ vs).toArray) := by
  intro vs
  induction vs with
  | nil => intro o w cs h hl; simp only [List.length_nil] at hl; rw [World.setCells]; simpa [List.take_of_length_le (l := cs.toList) (i := o) (by simp; omega)] using h
  | cons v vs ih =>
    intro o w cs h hl
    rw [World.setCells]
    have := ih (o + 1) _ _ (h.set o v) (by simp at hl ⊢; omega)
    have e : ((cs.setIfInBounds o v).toList.take (o + 1) ++ vs) = cs.toList.take o ++ v :: vs := by
      have ho : o < cs.toList.length := by simp at hl ⊢; omega
      rw [Array.toList_setIfInBounds, List.take_succ_eq_append_getElem (by simpa using ho), List.take_set_of_le (Nat.le_refl _)]
      simp
    rwa [e] at this
theorem setCells_gb {b : Nat} : ∀ (vs : List Value) (o : Nat) (w : World), w.grownBy (w.setCells b o vs) (some b) := by
  intro vs
  induction vs with
  | nil => intro o w; rw [World.setCells]; exact gb_refl _ _
  | cons v vs ih => intro o w; rw [World.setCells]; exact gb_trans (gb_set (gb_refl _ _) _ _ _) (ih (o + 1) _)
theorem wp_store_blk {P : Program} {o : Oper} {a : Act} {w : World} {K : Act → World → Prop} {Q : Exit → Act → World → Prop} (t : TypeId) (x y : Operand) (ho : o.op = .store t x y)
    (b : Nat) (old cells : Array Value) (hb : Blk w b t old) (hx : a.eval x = .pointer (some ⟨b, 0, none⟩)) (hy : a.eval y = .agg cells) (hold : old.size = cells.size)
    (hi : (P.info? t).map (·.size) = some cells.size) (h1 : cells.all (·.oneCell') = true)
    (h : ∀ w', Blk w' b t cells → w.grownBy w' (some b) → K (a.put o.dst undef) w') : Oper.wp P o a w K Q := by
  refine wp_store_mid t x y ho b 0 cells hx hy (fun j hj => ?_) hi h1 (h _ ?_ (setCells_gb _ _ _))
  · rw [Nat.zero_add, hb.cell j, hb.free j]
    exact ⟨by rw [Array.getElem?_eq_getElem (by omega)]; rfl, rfl⟩
  · have := setCells_blk cells.toList 0 w old hb (by simp [hold])
    simpa using this
/-- a store over a whole block -/
theorem step_store_blk {P : Program} {ops : Array Oper} {o : Oper} {a : Act} {w : World} {K : Act → World → Prop} {Q : Exit → Act → World → Prop} {E : Prop} (hw : Region.wanted o (yielded ops a.tmps) = true) (t : TypeId) (x y : Operand) (ho : o.op = .store t x y)
    (b : Nat) (old cells : Array Value) (hb : Blk w b t old) (hx : a.eval x = .pointer (some ⟨b, 0, none⟩)) (hy : a.eval y = .agg cells) (hold : old.size = cells.size)
    (hi : (P.info? t).map (·.size) = some cells.size) (h1 : cells.all (·.oneCell') = true)
    (h : ∀ w', Blk w' b t cells → w.grownBy w' (some b) → K (a.put o.dst undef) w') : if Region.wanted o (yielded ops a.tmps) = true then Oper.wp P o a w K Q else E := by
  rw [if_pos hw]
  exact wp_store_blk t x y ho b old cells hb hx hy hold hi h1 h
theorem wpList_store_blk {P : Program} {ops : Array Oper} {rest : List Oper} {o : Oper} {a : Act} {w : World} {Q : Exit → Act → World → Prop} (hgd : o.guard = none) (t : TypeId) (x y : Operand) (ho : o.op = .store t x y)
    (b : Nat) (old cells : Array Value) (hb : Blk w b t old) (hx : a.eval x = .pointer (some ⟨b, 0, none⟩)) (hy : a.eval y = .agg cells) (hold : old.size = cells.size)
    (hi : (P.info? t).map (·.size) = some cells.size) (h1 : cells.all (·.oneCell') = true)
    (h : ∀ w', Blk w' b t cells → w.grownBy w' (some b) → wpList P ops Q rest (a.put o.dst undef) w') : wpList P ops Q (o :: rest) a w :=
  wpList_plain hgd fun _ hK => wp_store_blk t x y ho b old cells hb hx hy hold hi h1 (fun w' h1 h2 => hK _ _ (h w' h1 h2))
end Go.Proofs.YtfbeeekakfllpaaDoor
