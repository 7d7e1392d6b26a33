/-
  Which line a position lies on, and its column, by the tables. No program in sight. No statement of the seat is proved here.
-/
import Derived.Test.YtfbeeekakfllpaaDoorLot
namespace Go.Proofs.YtfbeeekakfllpaaDoor
open Go.RowKit
set_option linter.unusedVariables false
theorem T_ns (s : ByteArray) : ∀ i, i ≤ s.size → LS s i ≤ ns s i ∧ (∀ x ∈ T s i, x.1 ≤ ns s i) ∧ ns s i ≤ ns s (i + 1)
  | 0, _ => by
    refine ⟨Nat.le_refl _, fun x hx => by simp [T] at hx, ?_⟩
    show 0 ≤ _; omega
  | i + 1, hi => by
    obtain ⟨h1, h2, h3⟩ := T_ns s i (by omega)
    have hn : ns s (i + 1) ≤ ns s (i + 1 + 1) := by
      show _ ≤ (if ns s (i + 1) = i + 1 then i + 1 + wd s (i + 1) else ns s (i + 1))
      split
      · next h => rw [h]; omega
      · omega
    refine ⟨?_, fun x hx => ?_, hn⟩
    · show (if ns s i = i ∧ tm s i = true then i + wd s i else LS s i) ≤ _
      split
      · next h => show _ ≤ (if ns s i = i then i + wd s i else ns s i); rw [if_pos h.1]; exact Nat.le_refl _
      · omega
    · have hx' : x ∈ (if ns s i = i ∧ tm s i = true then T s i ++ [(LS s i, i)] else T s i) := hx
      split at hx'
      · rw [List.mem_append, List.mem_singleton] at hx'
        rcases hx' with hx' | rfl
        · have := h2 x hx'; omega
        · show LS s i ≤ _; omega
      · have := h2 x hx'; omega
/-- the lines from p on -/
theorem T_from (s : ByteArray) (p : Nat) : ∀ d, p + d ≤ s.size → ∃ R, T s (p + d) = T s p ++ R ∧ ((R = [] ∧ LS s (p + d) = LS s p) ∨ (∃ e R', R = (LS s p, e) :: R' ∧ p ≤ e ∧ e < p + d ∧ (∀ x ∈ R', p < x.1) ∧ p < LS s (p + d)))
  | 0, _ => ⟨[], by simp, .inl ⟨rfl, rfl⟩⟩
  | d + 1, hd => by
    obtain ⟨R, h1, h2⟩ := T_from s p d (by omega)
    have hw := wd_pos s (p + d) (by omega)
    by_cases hc : ns s (p + d) = p + d ∧ tm s (p + d) = true
    · have e1 : T s (p + (d + 1)) = T s (p + d) ++ [(LS s (p + d), p + d)] := by show (if ns s (p + d) = p + d ∧ tm s (p + d) = true then _ else _) = _; rw [if_pos hc]; rfl
      have e2 : LS s (p + (d + 1)) = p + d + wd s (p + d) := by show (if ns s (p + d) = p + d ∧ tm s (p + d) = true then _ else _) = _; rw [if_pos hc]; rfl
      refine ⟨R ++ [(LS s (p + d), p + d)], by rw [e1, h1, List.append_assoc], .inr ?_⟩
      rcases h2 with ⟨rfl, h2⟩ | ⟨e, R', rfl, h3, h4, h5, h6⟩
      · exact ⟨p + d, [], by rw [h2]; rfl, by omega, by omega, fun x hx => absurd hx (by simp), by omega⟩
      · refine ⟨e, R' ++ [(LS s (p + d), p + d)], rfl, h3, by omega, fun x hx => ?_, by omega⟩
        rw [List.mem_append, List.mem_singleton] at hx
        rcases hx with hx | rfl
        · exact h5 x hx
        · exact h6
    · have e1 : T s (p + (d + 1)) = T s (p + d) := by show (if ns s (p + d) = p + d ∧ tm s (p + d) = true then _ else _) = _; rw [if_neg hc]; rfl
      have e2 : LS s (p + (d + 1)) = LS s (p + d) := by show (if ns s (p + d) = p + d ∧ tm s (p + d) = true then _ else _) = _; rw [if_neg hc]; rfl
      refine ⟨R, by rw [e1, h1], ?_⟩
      rcases h2 with ⟨rfl, h2⟩ | ⟨e, R', rfl, h3, h4, h5, h6⟩
      · exact .inl ⟨rfl, by rw [e2, h2]⟩
      · exact .inr ⟨e, R', rfl, h3, by omega, h5, by rw [e2]; exact h6⟩
/-- the table of lines of s -/
def lns (s : ByteArray) : List (Nat × Nat) := T s s.size ++ [(LS s s.size, s.size)]
/-- the line of the position p -/
theorem line_at (s : ByteArray) (p : Nat) (hb : Bd s p) : ∃ e, (lns s)[(T s p).length]? = some (LS s p, e) ∧ p ≤ e ∧ e ≤ s.size ∧ (∀ j x, (lns s)[j]? = some x → j ≤ (T s p).length → x.1 ≤ p) ∧ (∀ j x, (lns s)[j]? = some x → (T s p).length < j → p < x.1) := by
  obtain ⟨d, hd⟩ := Nat.exists_eq_add_of_le hb.le
  obtain ⟨R, h1, h2⟩ := T_from s p d (by omega)
  rw [← hd] at h1 h2
  obtain ⟨t1, t2, _⟩ := T_ns s p hb.le
  rw [hb.at_] at t1 t2
  have hls : lns s = T s p ++ (R ++ [(LS s s.size, s.size)]) := by unfold lns; rw [h1, List.append_assoc]
  obtain ⟨e, R', hR, he1, he2, hR'⟩ : ∃ e R', R ++ [(LS s s.size, s.size)] = (LS s p, e) :: R' ∧ p ≤ e ∧ e ≤ s.size ∧ ∀ x ∈ R', p < x.1 := by
    rcases h2 with ⟨rfl, h2⟩ | ⟨e, R', rfl, h3, h4, h5, h6⟩
    · exact ⟨s.size, [], by rw [h2]; rfl, hb.le, Nat.le_refl _, fun x hx => absurd hx (by simp)⟩
    · refine ⟨e, R' ++ [(LS s s.size, s.size)], rfl, h3, by omega, fun x hx => ?_⟩
      rw [List.mem_append, List.mem_singleton] at hx
      rcases hx with hx | rfl
      · exact h5 x hx
      · exact h6
  rw [hls, hR]
  refine ⟨e, by rw [List.getElem?_append_right (Nat.le_refl _), Nat.sub_self]; rfl, he1, he2, fun j x hj hle => ?_, fun j x hj hlt => ?_⟩
  · rcases Nat.lt_or_ge j (T s p).length with c | c
    · rw [List.getElem?_append_left c] at hj
      exact t2 x (List.mem_of_getElem? hj)
    · have : j = (T s p).length := by omega
      subst this
      rw [List.getElem?_append_right (Nat.le_refl _), Nat.sub_self] at hj
      have := Option.some.inj hj
      rw [← this]; exact t1
  · rw [List.getElem?_append_right (by omega)] at hj
    obtain ⟨k, hk⟩ : ∃ k, j - (T s p).length = k + 1 := ⟨j - (T s p).length - 1, by omega⟩
    rw [hk] at hj
    exact hR' x (List.mem_of_getElem? hj)
theorem ascii_run (s : ByteArray) (a : Nat) (ha : ns s a = a) : ∀ d, a + d ≤ s.size → (∀ j, a ≤ j → j < a + d → byteAt s j < 128) → ns s (a + d) = a + d ∧ U s (a + d) = U s a + d
  | 0, _, _ => ⟨ha, rfl⟩
  | d + 1, hd, h => by
    obtain ⟨h1, h2⟩ := ascii_run s a ha d (by omega) (fun j j1 j2 => h j j1 (by omega))
    have hb := h (a + d) (by omega) (by omega)
    obtain ⟨w1, c1⟩ := wd_ascii s (a + d) (by omega) hb
    have hu : un s (a + d) = 1 := by unfold un; rw [if_pos (by omega)]
    refine ⟨?_, ?_⟩
    · show (if ns s (a + d) = a + d then a + d + wd s (a + d) else _) = _; rw [if_pos h1, w1]; rfl
    · show U s (a + d) + (if ns s (a + d) = a + d then un s (a + d) else 0) = _; rw [if_pos h1, hu, h2]; omega
/-- the column of the position p, by its line's entry -/
theorem col_at (s : ByteArray) (p e f : Nat) (c : Option (List Int)) (hb : Bd s p) (he : p ≤ e) (hes : e ≤ s.size) (h : Entry s (LS s p) e c f) :
    ((c = none ∨ p - LS s p < f) → U s p - U s (LS s p) = p - LS s p) ∧ (∀ zs, c = some zs → f ≤ p - LS s p → p - LS s p - f < zs.length ∧ nth zs (p - LS s p - f) = ((U s p - U s (LS s p) : Nat) : Int)) := by
  have hl := hb.ls
  have hmono := U_mono' s hl
  have run : (∀ j, LS s p ≤ j → j < p → byteAt s j < 128) → U s p - U s (LS s p) = p - LS s p := by
    intro hj
    obtain ⟨d, hd⟩ := Nat.exists_eq_add_of_le hl
    have := (ascii_run s (LS s p) hb.lsb d (by have := hb.le; omega) (fun j j1 j2 => hj j j1 (by omega))).2
    rw [← hd] at this
    omega
  rcases h with ⟨hc, _, hn⟩ | ⟨⟨f1, f2, f3, f4⟩, h2, hc⟩
  · refine ⟨fun _ => run (fun j j1 j2 => hn j j1 (by omega) (by have := hb.le; omega)), fun zs hz => by rw [hc] at hz; cases hz⟩
  · refine ⟨fun hor => run (fun j j1 j2 => f4 j j1 ?_), fun zs hz hf => ?_⟩
    · rcases hor with h | h
      · rw [hc] at h; cases h
      · omega
    · rw [hc] at hz; cases hz
      have hlt : p - LS s p - f < e - (LS s p + f) + 1 := by omega
      refine ⟨by rw [cols_length]; exact hlt, ?_⟩
      rw [cols_nth s _ _ _ _ hlt, show LS s p + f + (p - LS s p - f) = p by omega]
      omega
end Go.Proofs.YtfbeeekakfllpaaDoor
