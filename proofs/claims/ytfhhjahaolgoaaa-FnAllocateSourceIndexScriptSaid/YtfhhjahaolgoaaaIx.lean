/-
  A map from texts to numbers: each distinct text holds one more than its rank of first appearance. Plain: no program.
-/
import Derived.Maps.OwnSet
namespace Go.Proofs.Ytfhhjahaolgoaaa
open Go.Maps

/-- the distinct texts in order of first appearance -/
noncomputable def ext (seen : List ByteArray) (t : ByteArray) : List ByteArray := open Classical in if t ∈ seen then seen else seen ++ [t]
theorem ext_in {seen : List ByteArray} {t : ByteArray} (h : t ∈ seen) : ext seen t = seen := by unfold ext; rw [if_pos h]
theorem ext_out {seen : List ByteArray} {t : ByteArray} (h : ¬ t ∈ seen) : ext seen t = seen ++ [t] := by unfold ext; rw [if_neg h]
theorem ext_pos (seen : List ByteArray) (t : ByteArray) : 0 < (ext seen t).length := by
  by_cases h : t ∈ seen
  · rw [ext_in h]; exact List.length_pos_of_mem h
  · rw [ext_out h]; simp
theorem ext_le (seen : List ByteArray) (t : ByteArray) : (ext seen t).length ≤ seen.length + 1 := by
  by_cases h : t ∈ seen
  · rw [ext_in h]; omega
  · rw [ext_out h]; simp
theorem ext_nodup {seen : List ByteArray} {t : ByteArray} (h : seen.Nodup) : (ext seen t).Nodup := by
  by_cases ht : t ∈ seen
  · rw [ext_in ht]; exact h
  · rw [ext_out ht]
    refine List.nodup_append.2 ⟨h, by simp, fun a ha b hb => ?_⟩
    obtain rfl := List.mem_singleton.1 hb
    intro e; subst e; exact ht ha
theorem ext_ge {seen : List ByteArray} {t : ByteArray} : seen.length ≤ (ext seen t).length := by
  by_cases ht : t ∈ seen
  · rw [ext_in ht]; omega
  · rw [ext_out ht]; simp

theorem nodup_get {seen : List ByteArray} (h : seen.Nodup) {i j : Nat} {t : ByteArray} (hi : seen[i]? = some t) (hj : seen[j]? = some t) : i = j := by
  obtain ⟨a1, a2⟩ := List.getElem?_eq_some_iff.1 hi
  obtain ⟨b1, b2⟩ := List.getElem?_eq_some_iff.1 hj
  have q := List.pairwise_iff_getElem.1 h
  rcases Nat.lt_trichotomy i j with h1 | h1 | h1
  · exact absurd (a2.trans b2.symm) (q i j a1 b1 h1)
  · exact h1
  · exact absurd (b2.trans a2.symm) (q j i b1 a1 h1)

structure Know {H : Type} (kl : ByteArray → Lit) (D : DataW H) (seen : List ByteArray) : Prop where
  map : IsMap D
  has : ∀ t : ByteArray, t.size ≤ maxLen → (Maps.has D (kl t) = true ↔ t ∈ seen)
  at_ : ∀ (r : Nat) (t : ByteArray), t.size ≤ maxLen → seen[r]? = some t → D.atKey (kl t) (.lit (.int .u32 0)) = .lit (.int .u32 (1 + (r : Int)))

structure Keys1 (kl : ByteArray → Lit) : Prop where
  key : ∀ t : ByteArray, t.size ≤ maxLen → WideAt.IsKeyLit (kl t)
  inj : ∀ s t : ByteArray, s.size ≤ maxLen → t.size ≤ maxLen → kl s = kl t → s = t

theorem Know.nil {H : Type} (kl : ByteArray → Lit) : Know (H := H) kl (.map []) [] :=
  ⟨isMap_empty, fun t _ => by simp [Maps.has], fun r t _ h => by simp at h⟩

theorem Know.snoc {H : Type} {kl : ByteArray → Lit} (K : Keys1 kl) {D : DataW H} {seen : List ByteArray} (h : Know kl D seen)  {t : ByteArray} (ht : t.size ≤ maxLen) (hno : ¬ t ∈ seen) :
    Know kl (D.put (kl t) (.lit (.int .u32 (1 + (seen.length : Int))))) (seen ++ [t]) := by
  refine ⟨h.map.put _ _, fun s hsz => ?_, fun r s hsz hr => ?_⟩
  · by_cases e : s = t
    · subst e
      rw [has_put_same h.map (K.key s hsz)]; simp
    · rw [has_put_other (fun e' => e (K.inj _ _ hsz ht e')), h.has s hsz]
      simp [e]
  · by_cases e : s = t
    · subst e
      rw [atKey_put_same h.map (K.key s hsz)]
      have : r = seen.length := by
        by_cases hr2 : r < seen.length
        · rw [List.getElem?_append_left hr2] at hr
          exact absurd (List.mem_of_getElem? hr) hno
        · rw [List.getElem?_append_right (by omega)] at hr
          have := (List.getElem?_eq_some_iff.1 hr).1
          simp at this; omega
      rw [this]
    · rw [atKey_put_other (fun e' => e (K.inj _ _ hsz ht e'))]
      refine h.at_ r s hsz ?_
      by_cases hr2 : r < seen.length
      · rwa [List.getElem?_append_left hr2] at hr
      · rw [List.getElem?_append_right (by omega)] at hr
        have h1 := (List.getElem?_eq_some_iff.1 hr).1
        simp at h1
        rw [show r - seen.length = 0 by omega] at hr
        simp at hr
        exact absurd hr.symm e

/-- what the look-up finds at a text that is there -/
theorem Know.found {H : Type} {kl : ByteArray → Lit} {D : DataW H} {seen : List ByteArray} (h : Know kl D seen) {t : ByteArray} (ht : t.size ≤ maxLen) {c : Int} (hh : Maps.has D (kl t) = true) (hc : D.atKey (kl t) (.lit (.int .u32 0)) = .lit (.int .u32 c)) :
    t ∈ seen ∧ ∃ r : Nat, seen[r]? = some t ∧ c = 1 + (r : Int) := by
  have hm := (h.has t ht).1 hh
  obtain ⟨r, hr, e⟩ := List.getElem_of_mem hm
  have hr' : seen[r]? = some t := List.getElem?_eq_some_iff.2 ⟨hr, e⟩
  refine ⟨hm, r, hr', ?_⟩
  rw [h.at_ r t ht hr'] at hc
  simpa [DataW.lit.injEq] using hc.symm
theorem Know.missed {H : Type} {kl : ByteArray → Lit} {D : DataW H} {seen : List ByteArray} (h : Know kl D seen) {t : ByteArray} (ht : t.size ≤ maxLen) (hh : Maps.has D (kl t) = false) : ¬ t ∈ seen := fun hm => by
  rw [(h.has t ht).2 hm] at hh; cases hh
end Go.Proofs.Ytfhhjahaolgoaaa
