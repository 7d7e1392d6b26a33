/-
  'append(v, s...)', s a slice of integers that lies in another block; a range of integers that setCells writes. No statement of the seat is proved here.
-/
import Derived.Test.YtemohaonhcmpkaaFmtOwn
import Derived.Maps.AppendAt
import Derived.Deep.RegionLaw
namespace Go.Proofs.YtemohaonhcmpkaaFmt
open Go.RowKit

theorem wpList_pushs {P : Program} (w : World) {ops : Array Oper} {rest : List Oper} {o : Oper} {a : Act} {Q : Exit → Act → World → Prop} (hgd : o.guard = none) (s x : Operand) (t : TypeId)
    (ho : o.op = .call { callee := .builtin .append, args := #[s, x], argTypes := #[t, t] }) (B : Nat) (e : TypeId) (k : IntKind) (bytes : Nat) (ht : P.underlying t = some (.slice e))
    (hinfo : (P.info? e).map (fun i => (i.zero, i.size, i.bytes)) = some (some (.int k 0), 1, bytes)) (v : Value) (zs ys : List Int) (hs : a.eval s = v) (hown : Own k e w B v zs)
    (b off n c : Nat) (hx : a.eval x = .slice (some ⟨b, off, none⟩) n c) (hn : n = ys.length) (hc : ∀ j, j < ys.length → w.cell? ⟨b, off + j, none⟩ = some (.int k (nth ys j)))
    (h63 : zs.length + ys.length ≤ maxLen) (hby : (zs.length + ys.length) * bytes ≤ 140737488355328) (hB : B ≤ w.heap.size)
    (h : ∀ v' w', Own k e w' B v' (zs ++ ys) → Gr w v w' v' → wpList P ops Q rest (a.put o.dst v') w') : wpList P ops Q (o :: rest) a w := by
  subst hn
  obtain ⟨i0, hi, hz0, hz1, hz2⟩ := info_parts hinfo
  refine wpList_append_own_at _ hgd s x t ho B e i0 (.int k 0) 1 bytes ht hi hz0 hz1 hz2 rfl (by decide) v zs.length (row k zs) hs hown ⟨b, off, none⟩ ys.length c (row k ys) hx (by rw [row_length, Nat.mul_one]) ?_ (fun u hu => ?_) h63 hby hB ?_
  · intro j u hj
    have hjl : j < ys.length := by
      rcases Nat.lt_or_ge j ys.length with h | h
      · exact h
      · rw [List.getElem?_eq_none (by rw [row_length]; exact h)] at hj; cases hj
    rw [row_at k ys j hjl] at hj
    have e1 : (⟨b, off, none⟩ : Addr).add j = ⟨b, off + j, none⟩ := by unfold Addr.add; split <;> simp_all
    rw [e1, hc j hjl, ← hj]
  · simp only [row, List.mem_map] at hu
    obtain ⟨z, _, rfl⟩ := hu
    rfl
  · intro v' w' h1 h2 h3 h4
    refine h v' w' ?_ ⟨h2, ?_⟩
    · show w'.ownsRow B e 1 v' (zs ++ ys).length (row k (zs ++ ys))
      rw [row_app, List.length_append]; exact h1
    · rcases h4 with h4 | h4
      · exact .inl h4
      · exact .inr ⟨_, h4, Nat.le_refl _⟩
theorem nth_lt_of {k : IntKind} {ys : List Int} {j : Nat} {u : Value} (hj : (row k ys)[j]? = some u) : j < ys.length := by
  rcases Nat.lt_or_ge j ys.length with h | h
  · exact h
  · rw [List.getElem?_eq_none (by rw [row_length]; exact h)] at hj; cases hj
/-- the same as one step of a region that draws -/
theorem step_pushs {P : Program} {ops : Array Oper} {o : Oper} {a : Act} {w : World} {K : Act → World → Prop} {Q : Exit → Act → World → Prop} {E : Prop} (hgd : o.guard = none) (s x : Operand) (t : TypeId)
    (ho : o.op = .call { callee := .builtin .append, args := #[s, x], argTypes := #[t, t] }) (B : Nat) (e : TypeId) (k : IntKind) (bytes : Nat) (ht : P.underlying t = some (.slice e))
    (hinfo : (P.info? e).map (fun i => (i.zero, i.size, i.bytes)) = some (some (.int k 0), 1, bytes)) (v : Value) (zs ys : List Int) (hs : a.eval s = v) (hown : Own k e w B v zs)
    (b off n c : Nat) (hx : a.eval x = .slice (some ⟨b, off, none⟩) n c) (hn : n = ys.length) (hc : ∀ j, j < ys.length → w.cell? ⟨b, off + j, none⟩ = some (.int k (nth ys j)))
    (h63 : zs.length + ys.length ≤ maxLen) (hby : (zs.length + ys.length) * bytes ≤ 140737488355328) (hB : B ≤ w.heap.size)
    (h : ∀ v' w', Own k e w' B v' (zs ++ ys) → Gr w v w' v' → K (a.put o.dst v') w') : if Region.wanted o (yielded ops a.tmps) = true then Oper.wp P o a w K Q else E := by
  subst hn
  have hw : Region.wanted o (yielded ops a.tmps) = true := by simp [Region.wanted, hgd]
  rw [if_pos hw]
  obtain ⟨i0, hi, hz0, hz1, hz2⟩ := info_parts hinfo
  obtain ⟨v', w', hr, h1, h2, h3, h4⟩ := run_append_own_at (P := P) w B t o.type e i0 (.int k 0) 1 bytes ht hi hz0 hz1 hz2 rfl (by decide) v zs.length (row k zs) hown ⟨b, off, none⟩ ys.length c (row k ys) (by rw [row_length, Nat.mul_one]) (fun j u hj => by
      have hjl := nth_lt_of hj
      rw [row_at k ys j hjl] at hj
      have e1 : (⟨b, off, none⟩ : Addr).add j = ⟨b, off + j, none⟩ := by unfold Addr.add; split <;> simp_all
      rw [e1, hc j hjl, ← hj]) (fun u hu => by
      simp only [row, List.mem_map] at hu
      obtain ⟨z, _, rfl⟩ := hu
      rfl) h63 hby hB
  unfold Oper.wp
  simp only [execOp, ho, resolve, invoke, builtin, Sem.run_bind, Sem.run_pure, Result.andThen_ok, List.map_toArray, List.map_cons, List.map_nil, hs, hx, hr]
  refine h v' w' ?_ ⟨h2, ?_⟩
  · show w'.ownsRow B e 1 v' (zs ++ ys).length (row k (zs ++ ys))
    rw [row_app, List.length_append]; exact h1
  · rcases h4 with h4 | h4
    · exact .inl h4
    · exact .inr ⟨_, h4, Nat.le_refl _⟩
end Go.Proofs.YtemohaonhcmpkaaFmt
