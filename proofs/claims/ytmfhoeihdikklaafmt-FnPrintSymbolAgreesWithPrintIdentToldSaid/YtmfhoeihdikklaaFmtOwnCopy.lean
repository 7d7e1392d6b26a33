/-
  'copy(dst, src)' of a whole slice of integers into a fresh block of the same length. No statement of the seat is proved here.
-/
import Derived.Test.YtmfhoeihdikklaaFmtOwn
import Derived.Laws.CopyOwn
namespace Go.Proofs.YtmfhoeihdikklaaFmt
open Go.RowKit

theorem wpList_copy_ints {P : Program} (w : World) {ops : Array Oper} {rest : List Oper} {o : Oper} {a : Act} {Q : Exit → Act → World → Prop} (hgd : o.guard = none) (d s : Operand) (t : TypeId)
    (ho : o.op = .call { callee := .builtin .copy, args := #[d, s], argTypes := #[t, t] }) (e : TypeId) (k : IntKind) (hu : P.underlying t = some (.slice e)) (hsz : (P.info? e).map (·.size) = some 1)
    (g dc sc : Nat) (ao : Option Addr) (zs ys : List Int) (hd : a.eval d = .slice (some ⟨g, 0, none⟩) zs.length dc) (hs : a.eval s = .slice ao zs.length sc) (hg : Blk w g e (ints k ys)) (hy : ys.length = zs.length) (hin : In k w ao zs)
    (B : Nat) (w0 : World) (hb : Below B w0 w) (hBg : B ≤ g)
    (h : ∀ w', Blk w' g e (ints k zs) → Below B w0 w' → wpList P ops Q rest (a.put o.dst (goInt zs.length)) w') : wpList P ops Q (o :: rest) a w := by
  have hl : (row k zs).length = zs.length := row_length k zs
  refine wpList_copy_splice hgd d s t t ho e hu hsz _ _ _ _ _ _ hd hs g 0 (row k ys) e hg (row k zs) (by rw [hl]; exact (Nat.min_self _).symm) (fun hp => ⟨rfl, ?_⟩) (by rw [hl, row_length]; omega) (fun v hv => ?_) B w0 hb hBg ?_
  · rw [hl] at hp
    rcases hin with hz | ⟨b, off, hx, _, hc⟩
    · rw [hz] at hp; simp at hp
    · refine ⟨⟨b, off, none⟩, hx, fun j v hj => ?_⟩
      have hjl : j < zs.length := by
        rcases Nat.lt_or_ge j zs.length with h | h
        · exact h
        · rw [List.getElem?_eq_none (by rw [hl]; exact h)] at hj; cases hj
      rw [row_at k zs j hjl] at hj
      have e1 : (⟨b, off, none⟩ : Addr).add j = ⟨b, off + j, none⟩ := by unfold Addr.add; split <;> simp_all
      rw [e1, hc j hjl, ← hj]
  · simp only [row, List.mem_map] at hv
    obtain ⟨z, _, rfl⟩ := hv
    rfl
  · intro w' h1 h2
    rw [hl]
    refine h w' ?_ h2
    have h3 := h1.out
    have e2 : splice (row k ys) 0 (row k zs) = row k zs := by
      unfold splice
      rw [List.take_zero, List.nil_append, Nat.zero_add, List.drop_eq_nil_of_le (by rw [hl, row_length]; omega), List.append_nil]
    rw [e2] at h3
    exact h3
end Go.Proofs.YtmfhoeihdikklaaFmt
