/-
  What a validation pass keeps of parents and depths, and of the flag that something changed. Plain law. No statement of the seat is proved here.
-/
import Derived.Test.YtffilaoipcjcmaaGreatDn
namespace Go.Proofs.YtffilaoipcjcmaaGreat

/-- tl: files with await; d: marks; P, D: parent and depth as GetIndex tells them (4294967295: none); R: record's number; dc: did anything change -/
structure TI (tl d : Nat → Bool) (P D R : Nat → Int) (dc : Bool) : Prop where
  a1 : dc = true → ∃ v, d v = true ∧ tl v = true
  a2 : ∀ v, d v = true → tl v = true → dc = true
  b : ∀ v, D v ≠ 4294967295 → dc = true
  c : ∀ v, d v = true → tl v = true → P v = (v : Int) ∧ D v = 1
  dr : ∀ v, 1 ≤ D v ∧ D v ≤ 4294967295
  pr : ∀ v, 0 ≤ P v ∧ P v ≤ 4294967295
  e : ∀ v, d v = false → P v = 4294967295 ∧ D v = 4294967295 ∧ R v = 0
def put (f : Nat → Int) (a : Nat) (x : Int) : Nat → Int := fun v => if v = a then x else f v
theorem put_same (f : Nat → Int) (a : Nat) (x : Int) : put f a x a = x := if_pos rfl
theorem put_ne {f : Nat → Int} {a v : Nat} {x : Int} (h : v ≠ a) : put f a x v = f v := if_neg h
section
variable {tl d : Nat → Bool} {P D R : Nat → Int} {dc : Bool}
theorem TI.init : TI tl (fun _ => false) (fun _ => 4294967295) (fun _ => 4294967295) (fun _ => 0) false :=
  ⟨fun h => (by cases h), fun v h => (by cases h), fun v h => absurd rfl h, fun v h => (by cases h), fun v => (by omega), fun v => (by omega), fun v _ => ⟨rfl, rfl, rfl⟩⟩
/-- a file without await is marked -/
theorem TI.mark0 {a : Nat} (h : TI tl d P D R dc) (ht : tl a = false) : TI tl (fun v => d v || v == a) P D R dc := by
  have key : ∀ v, (d v || v == a) = true → tl v = true → d v = true := fun v h1 h2 => by
    by_cases e : v = a
    · rw [e, ht] at h2; cases h2
    · simpa [e] using h1
  refine ⟨fun hd => ?_, fun v h1 h2 => h.a2 v (key v h1 h2) h2, h.b, fun v h1 h2 => h.c v (key v h1 h2) h2, h.dr, h.pr, fun v hv => h.e v ?_⟩
  · obtain ⟨v, h1, h2⟩ := h.a1 hd
    exact ⟨v, by simp [h1], h2⟩
  · cases hd : d v with
    | false => rfl
    | true => simp [hd] at hv
/-- a file with await is marked: its own parent, depth 1 -/
theorem TI.mark1 {a : Nat} (h : TI tl d P D R dc) (ht : tl a = true) (ha : a < 4294967295) : TI tl (fun v => d v || v == a) (put P a (a : Int)) (put D a 1) R true := by
  refine ⟨fun _ => ⟨a, by simp, ht⟩, fun _ _ _ => rfl, fun _ _ => rfl, fun v h1 h2 => ?_, fun v => ?_, fun v => ?_, fun v hv => ?_⟩
  · by_cases e : v = a
    · subst e; exact ⟨put_same .., put_same ..⟩
    · rw [put_ne e, put_ne e]; exact h.c v (by simpa [e] using h1) h2
  · by_cases e : v = a
    · subst e; rw [put_same]; omega
    · rw [put_ne e]; exact h.dr v
  · by_cases e : v = a
    · subst e; rw [put_same]; omega
    · rw [put_ne e]; exact h.pr v
  · have e : v ≠ a := fun e => by simp [e] at hv
    rw [put_ne e, put_ne e]
    exact h.e v (by cases hd : d v with | false => rfl | true => simp [hd] at hv)
/-- a shorter way to an await: behind the record number i to file x -/
theorem TI.near {a x : Nat} {i : Int} (h : TI tl d P D R dc) (ha : d a = true) (hx : x < 4294967295) (hlt : D x < D a - 1) : TI tl d (put P a (x : Int)) (put D a (D x + 1)) (put R a i) true := by
  have h1 := h.dr a
  have h2 := h.dr x
  have hdc : dc = true := h.b x (by omega)
  refine ⟨fun _ => h.a1 hdc, fun _ _ _ => rfl, fun _ _ => rfl, fun v k1 k2 => ?_, fun v => ?_, fun v => ?_, fun v hv => ?_⟩
  · have e : v ≠ a := fun e => by
      subst e
      have := (h.c v k1 k2).2
      omega
    rw [put_ne e, put_ne e]; exact h.c v k1 k2
  · by_cases e : v = a
    · subst e; rw [put_same]; omega
    · rw [put_ne e]; exact h.dr v
  · by_cases e : v = a
    · subst e; rw [put_same]; omega
    · rw [put_ne e]; exact h.pr v
  · have e : v ≠ a := fun e => by subst e; rw [ha] at hv; cases hv
    rw [put_ne e, put_ne e, put_ne e]
    exact h.e v hv
end
end Go.Proofs.YtffilaoipcjcmaaGreat
