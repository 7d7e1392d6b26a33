/-
  Slices of structs of the call's own: rows of cells, append of one; frames by a set of blocks. No statement of the seat is proved here.
-/
import Derived.Test.YtfbeeekakfllpaaDoorOwn
import Derived.Maps.AppendAt
namespace Go.Proofs.YtfbeeekakfllpaaDoor
open Go.RowKit
set_option linter.unusedVariables false
theorem flat_length (m : Nat) : ∀ rs : List (List Value), (∀ r ∈ rs, r.length = m) → rs.flatten.length = rs.length * m
  | [], _ => by simp
  | r :: rs, h => by
    have h1 := flat_length m rs (fun x hx => h x (by simp [hx]))
    have h2 := h r (by simp)
    rw [List.flatten_cons, List.length_append, h1, h2, List.length_cons, Nat.succ_mul]; omega
theorem flat_at (m : Nat) : ∀ (rs : List (List Value)) (k : Nat), (∀ r ∈ rs, r.length = m) → (h : k < rs.length) → ∀ j, j < m → rs.flatten[k * m + j]? = (rs[k]'h)[j]?
  | [], k, _, h, _, _ => absurd h (by simp)
  | r :: rs, k, hr, h, j, hj => by
    have h2 := hr r (by simp)
    cases k with
    | zero => rw [List.flatten_cons, List.getElem?_append_left (by rw [h2]; omega)]; simp
    | succ k =>
      rw [List.flatten_cons, List.getElem?_append_right (by rw [h2, Nat.succ_mul]; omega), h2, show (k + 1) * m + j - m = k * m + j by rw [Nat.succ_mul]; omega]
      simpa using flat_at m rs k (fun x hx => hr x (by simp [hx])) (by simpa using h) j hj
/-- v is a slice of the call's own whose elements (of m cells) read as the rows rs -/
structure OwnT (t : TypeId) (m : Nat) (w : World) (B : Nat) (v : Value) (rs : List (List Value)) : Prop where
  own : w.ownsRow B t m v rs.length rs.flatten
  len : ∀ r ∈ rs, r.length = m
theorem OwnT.nil (t : TypeId) (m : Nat) (w : World) (B : Nat) : OwnT t m w B (.slice none 0 0) [] := ⟨World.ownsRow_nil w B t m, fun r h => absurd h (by simp)⟩
theorem OwnT.lt {t : TypeId} {m : Nat} {w : World} {B : Nat} {v : Value} {rs : List (List Value)} (h : OwnT t m w B v rs) : ∀ g, v.ownBlock = some g → B ≤ g ∧ g < w.heap.size := World.ownsRow.lt h.own
theorem ownsRow_eq {w w' : World} {B : Nat} {t : TypeId} {m n : Nat} {v : Value} {xs : List Value} (h : w.ownsRow B t m v n xs) (hb : ∀ g, v.ownBlock = some g → w'.heap[g]? = w.heap[g]?) : w'.ownsRow B t m v n xs := by
  obtain ⟨h1, h2⟩ := h
  refine ⟨h1, h2.imp id ?_⟩
  rintro ⟨g, cap, cur, rfl, hB, hh, hr⟩
  exact ⟨g, cap, cur, rfl, hB, (hb g rfl).trans hh, hr⟩
theorem OwnT.eq {t : TypeId} {m : Nat} {w w' : World} {B : Nat} {v : Value} {rs : List (List Value)} (h : OwnT t m w B v rs) (hb : ∀ g, v.ownBlock = some g → w'.heap[g]? = w.heap[g]?) : OwnT t m w' B v rs := ⟨ownsRow_eq h.own hb, h.len⟩
theorem Own.eq {k : IntKind} {e : TypeId} {w w' : World} {B : Nat} {v : Value} {zs : List Int} (h : Own k e w B v zs) (hb : ∀ g, v.ownBlock = some g → w'.heap[g]? = w.heap[g]?) : Own k e w' B v zs := ownsRow_eq h hb
theorem OwnT.gb {t : TypeId} {m : Nat} {w w' : World} {B : Nat} {v : Value} {rs : List (List Value)} {r : Option Nat} (h : OwnT t m w B v rs) (hg : w.grownBy w' r) (hne : v.ownBlock = none ∨ v.ownBlock ≠ r) : OwnT t m w' B v rs := ⟨World.ownsRow.kept h.own hg hne, h.len⟩
theorem OwnT.kept {t : TypeId} {m : Nat} {w w' : World} {B : Nat} {v : Value} {rs : List (List Value)} (h : OwnT t m w B v rs) (hb : Below w.heap.size w w') : OwnT t m w' B v rs := h.eq (fun g hg => hb.block g (h.lt g hg).2)
theorem OwnT.mono {t : TypeId} {m : Nat} {w : World} {B B' : Nat} {v : Value} {rs : List (List Value)} (h : OwnT t m w B v rs) (hB : B' ≤ B) : OwnT t m w B' v rs := by
  obtain ⟨⟨h1, h2⟩, h3⟩ := h
  refine ⟨⟨h1, h2.imp id ?_⟩, h3⟩
  rintro ⟨g, cap, cur, rfl, a, b⟩
  exact ⟨g, cap, cur, rfl, Nat.le_trans hB a, b⟩
theorem OwnT.form {t : TypeId} {m : Nat} {w : World} {B : Nat} {v : Value} {rs : List (List Value)} (h : OwnT t m w B v rs) :
    ∃ ao cap, v = .slice ao rs.length cap ∧ ((ao = none ∧ rs = []) ∨ ∃ g, ao = some ⟨g, 0, none⟩ ∧ B ≤ g ∧ g < w.heap.size) := by
  obtain ⟨⟨h1, h2⟩, _⟩ := h
  rcases h2 with ⟨rfl, h0⟩ | ⟨g, cap, cur, rfl, hB, hh, hc, hm, hs, ht⟩
  · have hz : rs = [] := List.eq_nil_of_length_eq_zero h0
    subst hz
    exact ⟨none, 0, rfl, .inl ⟨rfl, rfl⟩⟩
  · exact ⟨_, cap, rfl, .inr ⟨g, rfl, hB, blk_lt hh⟩⟩
/-- the cells of element k -/
theorem OwnT.at {t : TypeId} {m : Nat} {w : World} {B : Nat} {v : Value} {rs : List (List Value)} (h : OwnT t m w B v rs) (k : Nat) (hk : k < rs.length) :
    ∃ g cap, v = .slice (some ⟨g, 0, none⟩) rs.length cap ∧ B ≤ g ∧ g < w.heap.size ∧ (∀ j, j < m → w.cell? ⟨g, k * m + j, none⟩ = (rs[k]'hk)[j]?) ∧ (∀ j, w.frozen? ⟨g, j, none⟩ = false) := by
  obtain ⟨⟨h1, h2⟩, hl⟩ := h
  rcases h2 with ⟨rfl, h0⟩ | ⟨g, cap, cur, rfl, hB, hh, hc, hm, hs, ht⟩
  · omega
  · refine ⟨g, cap, rfl, hB, blk_lt hh, fun j hj => ?_, fun j => blk_free hh j⟩
    rw [blk_cell hh, ← flat_at m rs k hl hk j hj, ← ht, List.getElem?_take, if_pos (by
      have : (k + 1) * m ≤ rs.length * m := Nat.mul_le_mul_right m hk
      rw [Nat.succ_mul] at this; omega)]
    simp
/-- 'append(v, r)' -/
theorem wpList_pushT {P : Program} (w : World) {ops : Array Oper} {rest : List Oper} {o : Oper} {a : Act} {Q : Exit → Act → World → Prop} (hgd : o.guard = none) (s x : Operand) (tt t : TypeId) (m : Nat)
    (ho : o.op = .call { callee := .builtin .append, args := #[s, x], argTypes := #[tt, tt] }) (B : Nat) (ht : P.underlying tt = some (.slice t)) (bytes : Nat) (z : Value) (hzm : z.cells.size = m) (hm : 0 < m)
    (hinfo : (P.info? t).map (fun i => (i.zero, i.size, i.bytes)) = some (some z, m, bytes)) (v : Value) (rs : List (List Value)) (r : List Value) (hs : a.eval s = v) (hown : OwnT t m w B v rs)
    (g : Nat) (hx : a.eval x = .slice (some ⟨g, 0, none⟩) 1 1) (hb : Blk w g t r.toArray) (hr : r.length = m) (h1 : ∀ u ∈ r, u.oneCell' = true) (h63 : rs.length + 1 ≤ maxLen) (hby : (rs.length + 1) * bytes ≤ 140737488355328) (hB : B ≤ w.heap.size)
    (h : ∀ v' w', OwnT t m w' B v' (rs ++ [r]) → w.grownBy w' v.ownBlock → (v'.ownBlock = v.ownBlock ∨ v'.ownBlock = some w.heap.size) → wpList P ops Q rest (a.put o.dst v') w') : wpList P ops Q (o :: rest) a w := by
  obtain ⟨i0, hi, hz0, hz1, hz2⟩ := info_parts hinfo
  refine wpList_append_own_at _ hgd s x tt ho B t i0 z m bytes ht hi hz0 hz1 hz2 hzm hm v rs.length rs.flatten hs hown.own ⟨g, 0, none⟩ 1 1 r hx (by rw [hr, Nat.one_mul]) ?_ h1 h63 hby hB ?_
  · intro j u hj
    have e : (⟨g, 0, none⟩ : Addr).add j = ⟨g, j, none⟩ := by unfold Addr.add; split <;> simp_all
    rw [e, hb.cell j, ← hj]; simp
  · intro v' w' h1 h2 h3 h4
    refine h v' w' ⟨?_, fun y hy => ?_⟩ h2 h4
    · rw [List.length_append, List.flatten_append]; simpa using h1
    · rw [List.mem_append] at hy
      rcases hy with hy | hy
      · exact hown.len y hy
      · rw [List.mem_singleton] at hy; rw [hy, hr]
/-- nothing but the blocks of F (and new ones) may have turned -/
structure Ch (F : Nat → Prop) (w w' : World) : Prop where
  os : w'.os = w.os
  tape : w'.tape = w.tape
  output : w'.output = w.output
  size : w.heap.size ≤ w'.heap.size
  block : ∀ i, i < w.heap.size → ¬ F i → w'.heap[i]? = w.heap[i]?
theorem Ch.refl (F : Nat → Prop) (w : World) : Ch F w w := ⟨rfl, rfl, rfl, Nat.le_refl _, fun _ _ _ => rfl⟩
theorem Ch.of_gb {F : Nat → Prop} {w w' : World} {r : Option Nat} (h : w.grownBy w' r) (hr : ∀ i, r = some i → F i) : Ch F w w' := ⟨h.os, h.tape, h.output, h.size, fun i hi hn => h.block i hi (fun e => hn (hr i e.symm))⟩
theorem Ch.of_below {F : Nat → Prop} {w w' : World} {B : Nat} (h : Below B w w') (hB : ∀ i, i < w.heap.size → ¬ F i → i < B) : Ch F w w' := ⟨h.os, h.tape, h.output, h.size, fun i hi hn => h.block i (hB i hi hn)⟩
theorem Ch.to_below {F : Nat → Prop} {w w' : World} {B : Nat} (h : Ch F w w') (hB : B ≤ w.heap.size) (hF : ∀ i, F i → B ≤ i) : Below B w w' := ⟨h.os, h.tape, h.output, h.size, fun i hi => h.block i (by omega) (fun f => by have := hF i f; omega)⟩
theorem Ch.mono {F G : Nat → Prop} {w w' : World} (h : Ch F w w') (hF : ∀ i, F i → G i) : Ch G w w' := ⟨h.os, h.tape, h.output, h.size, fun i hi hn => h.block i hi (fun f => hn (hF i f))⟩
/-- in a row: the second's blocks are the first's or new -/
theorem Ch.trans {F G : Nat → Prop} {a b c : World} (h : Ch F a b) (k : Ch G b c) (hG : ∀ i, i < a.heap.size → G i → F i) : Ch F a c :=
  ⟨k.os.trans h.os, k.tape.trans h.tape, k.output.trans h.output, Nat.le_trans h.size k.size, fun i hi hn => (k.block i (Nat.lt_of_lt_of_le hi h.size) (fun g => hn (hG i hi g))).trans (h.block i hi hn)⟩
theorem Ch.blk {F : Nat → Prop} {w w' : World} (h : Ch F w w') {b : Nat} {t : TypeId} {cs : Array Value} (hb : Blk w b t cs) (hn : ¬ F b) : Blk w' b t cs := (h.block b hb.lt hn).trans hb
theorem Ch.own {F : Nat → Prop} {w w' : World} (h : Ch F w w') {k : IntKind} {e : TypeId} {B : Nat} {v : Value} {zs : List Int} (ho : Own k e w B v zs) (hn : ∀ g, v.ownBlock = some g → ¬ F g) : Own k e w' B v zs := ho.eq (fun g hg => h.block g (ho.lt g hg).2 (hn g hg))
theorem Ch.ownT {F : Nat → Prop} {w w' : World} (h : Ch F w w') {t : TypeId} {m : Nat} {B : Nat} {v : Value} {rs : List (List Value)} (ho : OwnT t m w B v rs) (hn : ∀ g, v.ownBlock = some g → ¬ F g) : OwnT t m w' B v rs := ho.eq (fun g hg => h.block g (ho.lt g hg).2 (hn g hg))
theorem Ch.set {F : Nat → Prop} {w w' : World} (h : Ch F w w') (b i : Nat) (v : Value) (hb : b < w.heap.size → F b) : Ch F w (w'.setCell ⟨b, i, none⟩ v) := by
  have hg : w'.grownBy (w'.setCell ⟨b, i, none⟩ v) (some b) := gb_set (gb_refl _ _) i none _
  exact h.trans (Ch.of_gb (F := fun i => i = b) hg (fun i e => (Option.some.inj e).symm)) (fun i hi e => e ▸ hb (e ▸ hi))
theorem Ch.gb {F : Nat → Prop} {w w' w2 : World} {r : Option Nat} (h : Ch F w w') (hg : w'.grownBy w2 r) (hr : ∀ i, r = some i → i < w.heap.size → F i) : Ch F w w2 :=
  h.trans (Ch.of_gb (F := fun i => r = some i) hg (fun i e => e)) (fun i hi e => hr i e hi)
end Go.Proofs.YtfbeeekakfllpaaDoor
