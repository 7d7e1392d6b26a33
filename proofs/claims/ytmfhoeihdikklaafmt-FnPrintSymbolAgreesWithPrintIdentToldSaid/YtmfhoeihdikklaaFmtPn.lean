/-
  When printIdent meets no hexadecimal escape, from the text's bytes; what it prints, in one function. No statement of the seat is proved here.
-/
import Derived.Test.YtmfhoeihdikklaaFmtPt
import Derived.Test.YtmfhoeihdikklaaFmtPs
namespace Go.Proofs.YtmfhoeihdikklaaFmt
open Go.RowKit
set_option linter.unusedVariables false
set_option linter.unusedSimpArgs false

theorem bom_at (t : ByteArray) (i : Nat) (h : cp t i = 65279) : i + 2 < t.size ∧ byteAt t i = 239 ∧ byteAt t (i + 1) = 187 ∧ byteAt t (i + 2) = 191 := by
  unfold cp at h
  rw [Lib.decode_at] at h
  have l0 := byteAt_lt t i
  have l1 := byteAt_lt t (i + 1)
  have l2 := byteAt_lt t (i + 2)
  have l3 := byteAt_lt t (i + 3)
  have e0 : (t.get! i).toNat = byteAt t i := rfl
  have e1 : (t.get! (i + 1)).toNat = byteAt t (i + 1) := rfl
  have e2 : (t.get! (i + 2)).toNat = byteAt t (i + 2) := rfl
  have e3 : (t.get! (i + 3)).toNat = byteAt t (i + 3) := rfl
  rw [e0, e1, e2, e3] at h
  clear e0 e1 e2 e3
  generalize byteAt t i = b0 at *
  generalize byteAt t (i + 1) = b1 at *
  generalize byteAt t (i + 2) = b2 at *
  generalize byteAt t (i + 3) = b3 at *
  generalize hn : t.size - i = n at *
  unfold Lib.decodeN at h
  by_cases c1 : b0 < 128
  · rw [if_pos c1] at h
    simp only at h
    omega
  · rw [if_neg c1] at h
    by_cases c2 : b0 / 32 = 6 ∧ (1 < n ∧ b1 / 64 = 2)
    · rw [if_pos c2] at h
      split at h <;> simp only at h <;> omega
    · rw [if_neg c2] at h
      by_cases c3 : b0 / 16 = 14 ∧ (1 < n ∧ b1 / 64 = 2) ∧ (2 < n ∧ b2 / 64 = 2)
      · rw [if_pos c3] at h
        split at h
        · simp only at h
          omega
        · simp only at h
          omega
      · rw [if_neg c3] at h
        split at h
        · split at h <;> simp only at h <;> omega
        · simp only at h
          omega
theorem cp_small (t : ByteArray) (i : Nat) (hi : i < t.size) (h : cp t i < 128) : cp t i = (byteAt t i : Int) ∧ byteAt t i < 128 := by
  have hg := byteAt_get t i hi
  by_cases hb : byteAt t i < 128
  · refine ⟨?_, hb⟩
    unfold cp
    rw [decode_ascii t i hi (by omega)]
    show (((t[i]'hi).toNat : Nat) : Int) = _
    rw [hg]
  · have := (decode_high t i hi (by omega)).1
    unfold cp at h
    omega
theorem cp_byte (t : ByteArray) (i : Nat) (hi : i < t.size) (h : byteAt t i < 128) : cp t i = (byteAt t i : Int) := by
  have hg := byteAt_get t i hi
  unfold cp
  rw [decode_ascii t i hi (by omega)]
  show (((t[i]'hi).toNat : Nat) : Int) = _
  rw [hg]
/-- what the law asks of a name: no byte that is printed as a hexadecimal escape -/
structure NH (t : ByteArray) (a : Bool) : Prop where
  by_ : ∀ i, i < t.size → byteAt t i ≠ 10 ∧ byteAt t i ≠ 12 ∧ byteAt t i ≠ 13 ∧ (a = true → byteAt t i < 128)
  bom : ∀ i, i + 2 < t.size → ¬ (byteAt t i = 239 ∧ byteAt t (i + 1) = 187 ∧ byteAt t (i + 2) = 191)
  dig : 0 < t.size → ¬ (48 ≤ byteAt t 0 ∧ byteAt t 0 ≤ 57)
/-- does the text start an identifier? -/
def wsF (t : ByteArray) : Bool :=
  !(decide ((dg t 0).1 = 65533 ∧ (dg t 0).2 ≤ 1)) && (nameStart ((dg t 0).1 : Int) || (decide ((dg t 0).1 = 45) && (!(decide ((dg t (dg t 0).2).1 = 65533 ∧ (dg t (dg t 0).2).2 ≤ 1)) && (nameStart ((dg t (dg t 0).2).1 : Int) || decide ((dg t (dg t 0).2).1 = 45)))))
theorem nohex_nh {t : ByteArray} {a : Bool} (h : NH t a) : NoHex t a (wsF t) := by
  refine ⟨fun i hi => ?_, fun hb h0 hx => ?_⟩
  · have q := h.by_ i hi
    have sm : ∀ c : Int, c < 128 → cp t i = c → (byteAt t i : Int) = c := fun c hc e => by
      have := cp_small t i hi (by omega)
      omega
    refine ⟨fun e => ?_, fun e => ?_, fun e => ?_, fun e => ?_, fun ha => ?_⟩
    · have := sm 13 (by omega) e; omega
    · have := sm 10 (by omega) e; omega
    · have := sm 12 (by omega) e; omega
    · have := bom_at t i e
      exact h.bom i this.1 this.2
    · rw [cp_byte t i hi (q.2.2.2 ha)]
      have := q.2.2.2 ha
      omega
  · have hlt : cp t 0 < 128 := by unfold hexd at hx; omega
    obtain ⟨e, hb0⟩ := cp_small t 0 h0 hlt
    have hd := h.dig h0
    have hg : dg t 0 = (byteAt t 0, 1) := dg_ascii t 0 h0 hb0
    rw [e] at hx
    have hns : nameStart ((byteAt t 0 : Nat) : Int) = true := by unfold hexd at hx; unfold nameStart; simp; omega
    unfold wsF at hb
    rw [hg] at hb
    simp only [hns, Bool.true_or, Bool.and_true, Bool.not_eq_false', decide_eq_true_eq] at hb
    omega
/-- what printIdent appends -/
def out (t : ByteArray) : List Int := if wsF t = true ∧ (∀ i, i < t.size → okAt t i = true) then byt t else slow t (wsF t) t.size 0
theorem first_bad (t : ByteArray) : ∀ n, (∀ i, i < n → okAt t i = true) ∨ ∃ j, j < n ∧ (∀ i, i < j → okAt t i = true) ∧ okAt t j = false
  | 0 => .inl (fun i h => by omega)
  | n + 1 => by
    rcases first_bad t n with h | ⟨j, h1, h2, h3⟩
    · cases hb : okAt t n
      · exact .inr ⟨n, by omega, h, hb⟩
      · exact .inl (fun i hi => by
          by_cases e : i = n
          · subst e; exact hb
          · exact h i (by omega))
    · exact .inr ⟨j, by omega, h2, h3⟩
end Go.Proofs.YtmfhoeihdikklaaFmt
