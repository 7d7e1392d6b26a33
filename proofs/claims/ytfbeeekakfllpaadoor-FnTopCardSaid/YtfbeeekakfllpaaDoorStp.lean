/-
  'append' of one struct as a step of a region that draws. No statement of the seat is proved here.
-/
import Derived.Test.YtfbeeekakfllpaaDoorRows2
import Derived.Test.YtfbeeekakfllpaaDoorSx
import Derived.Deep.RegionLaw
namespace Go.Proofs.YtfbeeekakfllpaaDoor
open Go.RowKit
set_option linter.unusedVariables false
set_option linter.unusedSimpArgs false
/-- 'append(v, r)', as one step of a region that draws -/
theorem step_pushT {P : Program} {ops : Array Oper} {o : Oper} {a : Act} {w : World} {K : Act → World → Prop} {Q : Exit → Act → World → Prop} {E : Prop} (hgd : o.guard = none) (s x : Operand) (tt t : TypeId) (m : Nat)
    (ho : o.op = .call { callee := .builtin .append, args := #[s, x], argTypes := #[tt, tt] }) (B : Nat) (ht : P.underlying tt = some (.slice t)) (bytes : Nat) (z : Value) (hzm : z.cells.size = m) (hm : 0 < m)
    (hinfo : (P.info? t).map (fun i => (i.zero, i.size, i.bytes)) = some (some z, m, bytes)) (v : Value) (rs : List (List Value)) (r : List Value) (hs : a.eval s = v) (hown : OwnT t m w B v rs)
    (g : Nat) (hx : a.eval x = .slice (some ⟨g, 0, none⟩) 1 1) (hb : Blk w g t r.toArray) (hr : r.length = m) (h1 : ∀ u ∈ r, u.oneCell' = true) (h63 : rs.length + 1 ≤ maxLen) (hby : (rs.length + 1) * bytes ≤ 140737488355328) (hB : B ≤ w.heap.size)
    (h : ∀ v' w', OwnT t m w' B v' (rs ++ [r]) → w.grownBy w' v.ownBlock → (v'.ownBlock = v.ownBlock ∨ v'.ownBlock = some w.heap.size) → K (a.put o.dst v') w') : if Region.wanted o (yielded ops a.tmps) = true then Oper.wp P o a w K Q else E := by
  have hw : Region.wanted o (yielded ops a.tmps) = true := by simp [Region.wanted, hgd]
  rw [if_pos hw]
  obtain ⟨i0, hi, hz0, hz1, hz2⟩ := info_parts hinfo
  obtain ⟨v', w', hrn, h2, h3, h4, h5⟩ := run_append_own_at (P := P) w B tt o.type t i0 z m bytes ht hi hz0 hz1 hz2 hzm hm v rs.length rs.flatten hown.own ⟨g, 0, none⟩ 1 1 r (by rw [hr, Nat.one_mul]) (by
    intro j u hj
    have e : (⟨g, 0, none⟩ : Addr).add j = ⟨g, j, none⟩ := by unfold Addr.add; split <;> simp_all
    rw [e, hb.cell j, ← hj]; simp) h1 h63 hby hB
  unfold Oper.wp
  simp only [execOp, ho, resolve, invoke, builtin, Sem.run_bind, Sem.run_pure, Result.andThen_ok, List.map_toArray, List.map_cons, List.map_nil, hs, hx, hrn]
  refine h v' w' ⟨?_, fun y hy => ?_⟩ h3 h5
  · rw [List.length_append, List.flatten_append]; simpa using h2
  · rw [List.mem_append] at hy
    rcases hy with hy | hy
    · exact hown.len y hy
    · rw [List.mem_singleton] at hy; rw [hy, hr]
theorem OwnT.slice {t : TypeId} {m : Nat} {w : World} {B : Nat} {v : Value} {rs : List (List Value)} (h : OwnT t m w B v rs) : ∃ ao n cap, v = .slice ao n cap := by
  obtain ⟨ao, cap, hv, _⟩ := h.form
  exact ⟨ao, _, cap, hv⟩
theorem gb_cell {w w' : World} {r : Option Nat} (h : w.grownBy w' r) {p : Addr} {v : Value} (hp : r ≠ some p.block) (hc : w.cell? p = some v) : w'.cell? p = some v := by
  have hl : p.block < w.heap.size := by
    rcases Nat.lt_or_ge p.block w.heap.size with h | h
    · exact h
    · rw [World.cell?, Array.getElem?_eq_none h] at hc; cases hc
  exact (World.cell?_of_block (w := w) (h.block _ hl (fun e => hp e.symm))).trans hc
theorem info94 : (Tryd.prog.info? 94).map (fun i => (i.zero, i.size, i.bytes)) = some (some (.agg #[.int .i64 0, .int .i64 0, .int .i64 0, .int .i64 0, .int .i64 0, .int .i64 0]), 6, 48) := by kernel_rfl
theorem one6 (a b c d e f : Int) : ∀ u ∈ [Value.int .i64 a, .int .i64 b, .int .i64 c, .int .i64 d, .int .i64 e, .int .i64 f], u.oneCell' = true := by
  intro u hu; simp at hu; rcases hu with rfl | rfl | rfl | rfl | rfl | rfl <;> rfl
theorem info96 : (Tryd.prog.info? 96).map (fun i => (i.zero, i.size, i.bytes)) = some (some (.slice none 0 0), 1, 24) := by kernel_rfl
end Go.Proofs.YtfbeeekakfllpaaDoor
