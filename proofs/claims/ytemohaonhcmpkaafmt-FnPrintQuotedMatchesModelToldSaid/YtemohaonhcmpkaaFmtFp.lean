/-
  'append(v, x)' of one integer onto a slice that is full: the row lies in a new block. The printer as the law's door leaves it. No statement of the seat is proved here.
-/
import Derived.Test.YtemohaonhcmpkaaFmtPr
import Derived.ArgAppend
namespace Go.Proofs.YtemohaonhcmpkaaFmt
open Go.RowKit
set_option linter.unusedVariables false
set_option linter.unusedSimpArgs false

theorem in_cells {k : IntKind} {w : World} {ao : Option Addr} {zs : List Int} (hin : In k w ao zs) (o : Obj) : ∀ b, ao = some b → ∀ j u, (row k zs)[j]? = some u → (w.alloc o).cell? (b.add j) = some u := by
  intro b hb j u hj
  have hjl : j < zs.length := by
    rcases Nat.lt_or_ge j zs.length with h | h
    · exact h
    · rw [List.getElem?_eq_none (by rw [row_length]; exact h)] at hj; cases hj
  obtain ⟨g, off, hx, hlt, hc⟩ := hin.at hjl
  rw [hb] at hx
  cases hx
  rw [row_at k zs j hjl] at hj
  have e1 : (⟨g, off, none⟩ : Addr).add j = ⟨g, off + j, none⟩ := by unfold Addr.add; split <;> simp_all
  rw [e1, ← hj]
  exact cell_al hc
theorem wpList_push_full {P : Program} (w0 : World) {ops : Array Oper} {rest : List Oper} {o : Oper} {a : Act} {Q : Exit → Act → World → Prop} (hgd : o.guard = none) (s x : Operand) (t : TypeId)
    (ho : o.op = .call { callee := .builtin .append, args := #[s, x], argTypes := #[t, t] }) (B : Nat) (e : TypeId) (k : IntKind) (bytes : Nat) (ht : P.underlying t = some (.slice e))
    (hinfo : (P.info? e).map (fun i => (i.zero, i.size, i.bytes)) = some (some (.int k 0), 1, bytes)) (ao : Option Addr) (zs : List Int) (z : Int) (hs : a.eval s = .slice ao zs.length zs.length) (hin : In k w0 ao zs) (hnone : ao = none → zs = [])
    (hx : a.eval x = .slice (some ⟨w0.heap.size, 0, none⟩) 1 1) (h63 : zs.length + 1 ≤ maxLen) (hby : (zs.length + 1) * bytes ≤ 140737488355328) (hB : B ≤ w0.heap.size)
    (h : ∀ v' w', Own k e w' B v' (zs ++ [z]) → w0.grownBy w' none → (∀ g, v'.ownBlock = some g → w0.heap.size ≤ g) → wpList P ops Q rest (a.put o.dst v') w') : wpList P ops Q (o :: rest) a (w0.alloc (.cells #[.int k z] e)) := by
  obtain ⟨i0, hi, hz0, hz1, hz2⟩ := info_parts hinfo
  refine wpList_append_grows _ hgd s x t ho e i0 (.int k 0) 1 bytes ht hi hz0 hz1 hz2 rfl (by decide) ao zs.length zs.length (row k zs) hs (fun c => by rw [hnone c]; exact ⟨rfl, rfl⟩) (by rw [row_length, Nat.mul_one]) (in_cells hin _)
    ⟨w0.heap.size, 0, none⟩ 1 1 [.int k z] hx rfl ?_ (fun u hu => by simp at hu; subst hu; rfl) (by omega) h63 hby ?_
  · intro j u hj
    match j, hj with
    | 0, hj => simp at hj; subst hj; rw [show (⟨w0.heap.size, 0, none⟩ : Addr).add 0 = ⟨w0.heap.size, 0, none⟩ from rfl]; rw [blk_cell (blk_new w0 _) 0]; rfl
  · intro v' w' h1 h2
    have ho' : Own k e w' (w0.alloc (.cells #[.int k z] e)).heap.size v' (zs ++ [z]) := by
      show w'.ownsRow _ e 1 v' (zs ++ [z]).length (row k (zs ++ [z]))
      rw [row_app, List.length_append]; exact h1
    refine h v' w' (ho'.mono (by simp; omega)) (gb_trans (World.grownBy_alloc w0 _ _) h2) (fun g hg => ?_)
    have := (ho'.lt g hg).1
    simp at this
    omega
/-- a printer at block p as the door leaves it: its buffer is full -/
def PrF (w : World) (B p : Nat) (zs : List Int) : Prop :=
  ∃ ao, Blk w p 59 (prCells 0 false false (.slice ao zs.length zs.length) 0 0) ∧ In .u8 w ao zs ∧ (ao = none → zs = []) ∧ B ≤ p
theorem PrF.below {w w' : World} {B p : Nat} {zs : List Int} (h : PrF w B p zs) (hb : Below w.heap.size w w') : PrF w' B p zs := by
  obtain ⟨ao, h1, h2, h3, h4⟩ := h
  exact ⟨ao, h1.below hb h1.lt, h2.kept hb, h3, h4⟩
/-- behind the first append, stored back -/
theorem pr_first {w w1 : World} {B p : Nat} {zs ys : List Int} {ao ao' : Option Addr} {c' n : Nat} (hb : Blk w p 59 (prCells 0 false false (.slice ao zs.length zs.length) 0 0)) (hBp : B ≤ p) (hB : B ≤ w.heap.size)
    (ho : Own .u8 5 w1 B (.slice ao' ys.length c') ys) (hg : w.grownBy w1 none) (hn' : ∀ g, (Value.slice ao' ys.length c').ownBlock = some g → w.heap.size ≤ g) (hn : n = ys.length) :
    Pr (w1.setCell ⟨p, 15, none⟩ (.slice ao' n c')) B p 0 false false ys 0 0 ∧ Below B w (w1.setCell ⟨p, 15, none⟩ (.slice ao' n c')) := by
  subst hn
  have hne' : (Value.slice ao' ys.length c').ownBlock ≠ some p := fun e => by have := hn' p e; have := hb.lt; omega
  refine ⟨⟨ao', c', ?_, ho.gb (gb_set (gb_refl _ _) 15 none _) (.inr hne'), hne', hBp⟩, ((Below.refl B w).grown hg hB (fun k h => by cases h)).setCell hBp _⟩
  have := (hb.gb hg (fun h => by cases h)).set 15 (.slice ao' ys.length c')
  rw [set15] at this
  exact this
end Go.Proofs.YtemohaonhcmpkaaFmt
