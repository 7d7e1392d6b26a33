/-
  A stack of integers of the call's own: the last one read, the last one taken off. No statement of the seat is proved here.
-/
import Derived.Test.YtffilaoipcjcmaaGreatOwn
namespace Go.Proofs.YtffilaoipcjcmaaGreat
open Go.RowKit

theorem Own.last {k : IntKind} {e : TypeId} {w : World} {B : Nat} {v : Value} {zs : List Int} {z : Int} (h : Own k e w B v (zs ++ [z])) :
    ∃ g cap, v = .slice (some ⟨g, 0, none⟩) (zs.length + 1) cap ∧ zs.length + 1 ≤ cap ∧ B ≤ g ∧ g < w.heap.size ∧ w.cell? ⟨g, zs.length, none⟩ = some (.int k z) ∧ Own k e w B (.slice (some ⟨g, 0, none⟩) zs.length cap) zs := by
  obtain ⟨h1, h2⟩ := h
  rcases h2 with ⟨_, h0⟩ | ⟨g, cap, cur, rfl, hB, hh, hc, hm, hs, ht⟩
  · simp at h0
  · have hl : (zs ++ [z]).length = zs.length + 1 := by simp
    rw [hl] at hc ht ⊢
    rw [row_app] at ht
    refine ⟨g, cap, rfl, hc, hB, blk_lt hh, ?_, by simp [row], .inr ⟨g, cap, cur, rfl, hB, hh, by omega, hm, hs, ?_⟩⟩
    · have e1 : cur.toList[zs.length]? = some (.int k z) := by
        have := congrArg (fun l => l[zs.length]?) ht
        simp only [Nat.mul_one] at this
        rw [List.getElem?_take, if_pos (by omega)] at this
        rw [this, List.getElem?_append_right (by rw [row_length]; exact Nat.le_refl _), row_length, Nat.sub_self]
        rfl
      rw [blk_cell hh]
      rw [← e1]; simp
    · have := congrArg (fun l => l.take zs.length) ht
      simp only [Nat.mul_one] at this ⊢
      rw [List.take_take, Nat.min_eq_left (by omega), List.take_append_of_le_length (by rw [row_length]; exact Nat.le_refl _)] at this
      rw [this]
      exact List.take_of_length_le (by rw [row_length]; exact Nat.le_refl _)
end Go.Proofs.YtffilaoipcjcmaaGreat
