/-
  The first range that is appended to a lexer's comments, as one step of a region that draws. No statement of the seat is proved here.
-/
import Derived.Test.YtfpiokpdpdokjaaDoorOwn
import Derived.Test.YtfpiokpdpdokjaaDoorReg
import Derived.Test.YtfpiokpdpdokjaaDoorCssAt
namespace Go.Proofs.YtfpiokpdpdokjaaDoor
open Go.RowKit
set_option linter.unusedVariables false
theorem info36 : (Tryd.prog.info? 36).map (fun i => (i.zero, i.size, i.bytes)) = some (some (.agg #[.int .i32 0, .int .i32 0]), 2, 8) := by kernel_rfl
theorem step_pushR {P : Program} {w : World} {ops : Array Oper} {o : Oper} {a : Act} {K : Act → World → Prop} {Q : Exit → Act → World → Prop} {E : Prop} (hw : Region.wanted o (yielded ops a.tmps) = true) (s x : Operand) (t : TypeId)
    (ho : o.op = .call { callee := .builtin .append, args := #[s, x], argTypes := #[t, t] }) (ht : P.underlying t = some (.slice 36))
    (hinfo : (P.info? 36).map (fun i => (i.zero, i.size, i.bytes)) = some (some (.agg #[.int .i32 0, .int .i32 0]), 2, 8)) (z1 z2 : Int) (hs : a.eval s = .slice none 0 0)
    (g : Nat) (hx : a.eval x = .slice (some ⟨g, 0, none⟩) 1 1) (hb : Blk w g 36 #[.int .i32 z1, .int .i32 z2])
    (h : ∀ (g' cap : Nat) w', w.heap.size ≤ g' → g' < w'.heap.size → w'.cell? ⟨g', 0, none⟩ = some (.int .i32 z1) → w'.cell? ⟨g', 1, none⟩ = some (.int .i32 z2) → w.grownBy w' none → K (a.put o.dst (.slice (some ⟨g', 0, none⟩) 1 cap)) w') : if Region.wanted o (yielded ops a.tmps) = true then Oper.wp P o a w K Q else E := by
  obtain ⟨i0, hi, hz0, hz1, hz2⟩ := info_parts hinfo
  rw [if_pos hw]
  obtain ⟨v', w', hr, h2, h3, h4, h5⟩ := run_append_own_at (P := P) w w.heap.size t o.type 36 i0 (.agg #[.int .i32 0, .int .i32 0]) 2 8 ht hi hz0 hz1 hz2 rfl (by decide) (.slice none 0 0) 0 [] (World.ownsRow_nil _ _ _ _) ⟨g, 0, none⟩ 1 1 [.int .i32 z1, .int .i32 z2] rfl (fun j u hj => by
    have e : (⟨g, 0, none⟩ : Addr).add j = ⟨g, j, none⟩ := by unfold Addr.add; split <;> simp_all
    rw [e, hb.cell j, ← hj]; simp) (fun u hu => by
    simp only [List.mem_cons, List.not_mem_nil, or_false] at hu
    rcases hu with rfl | rfl <;> rfl) (by decide) (by decide) (Nat.le_refl _)
  unfold Oper.wp execOp
  simp only [ho, resolve, invoke, builtin, Sem.run_bind, Sem.run_pure, Result.andThen_ok, List.map_toArray, List.map_cons, List.map_nil, hs, hx, hr]
  obtain ⟨k1, k2⟩ := h2
  rcases k2 with ⟨_, k3⟩ | ⟨g', cap, cur, rfl, hB, hh, hc, hm, hsz, htk⟩
  · simp at k3
  · have key : ∀ i, i < 2 → cur[i]? = ([Value.int .i32 z1, .int .i32 z2])[i]? := by
      intro i hi'
      have e1 : cur.toList[i]? = ([Value.int .i32 z1, .int .i32 z2])[i]? := by
        have := congrArg (fun l => l[i]?) htk
        simp only [List.nil_append, Nat.zero_add] at this
        rw [← this, List.getElem?_take, if_pos (by omega)]
      rw [← e1]; simp
    refine h g' cap w' hB (blk_lt hh) ?_ ?_ h3
    · rw [blk_cell hh]; exact key 0 (by omega)
    · rw [blk_cell hh]; exact key 1 (by omega)
end Go.Proofs.YtfpiokpdpdokjaaDoor
