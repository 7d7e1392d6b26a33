/-
  Reach in a graph with marks: what a depth-first marking from a adds to the marks. Plain law, no program in sight. No statement of the seat is proved here.
-/
import Derived.WalkKit
namespace Go.Proofs.Ytebecbidodnneaa

/-- v is reached from a over edges E, through vertices that bear no mark D (Z: vertices from which the walk does not go on) -/
inductive Rch (E : Nat → Nat → Prop) (Z D : Nat → Prop) : Nat → Nat → Prop
  | here {a : Nat} : ¬ D a → Rch E Z D a a
  | step {a b v : Nat} : ¬ D a → ¬ Z a → E a b → Rch E Z D b v → Rch E Z D a v
section
variable {E : Nat → Nat → Prop} {Z D D' : Nat → Prop}
theorem Rch.head {a v : Nat} (h : Rch E Z D a v) : ¬ D a := by cases h <;> assumption
theorem Rch.tail {a v : Nat} (h : Rch E Z D a v) : ¬ D v := by induction h <;> assumption
theorem Rch.mono {a v : Nat} (h : Rch E Z D' a v) (hs : ∀ x, D x → D' x) : Rch E Z D a v := by
  induction h with
  | here h1 => exact .here (fun h => h1 (hs _ h))
  | step h1 h2 h3 _ ih => exact .step (fun h => h1 (hs _ h)) h2 h3 ih
theorem Rch.on {a b c v : Nat} (h : Rch E Z D a b) (hz : ¬ Z b) (he : E b c) (h2 : Rch E Z D c v) : Rch E Z D a v := by
  induction h with
  | here h1 => exact .step h1 hz he h2
  | step h1 h3 h4 _ ih => exact .step h1 h3 h4 (ih hz he)
/-- marks S closed under going on: a marking from c behind them -/
theorem Rch.cut {S : Nat → Prop} (hS : ∀ b c v, S b → ¬ Z b → E b c → Rch E Z D c v → S v) {c v : Nat} (h : Rch E Z D c v) : S v ∨ Rch E Z (fun x => D x ∨ S x) c v := by
  induction h with
  | @here a h1 =>
    by_cases hs : S a
    · exact .inl hs
    · exact .inr (.here (fun h => h.elim h1 hs))
  | @step a b v h1 h2 h3 h4 ih =>
    by_cases hs : S a
    · exact .inl (hS _ _ _ hs h2 h3 h4)
    · rcases ih with ih | ih
      · exact .inl ih
      · exact .inr (.step (fun h => h.elim h1 hs) h2 h3 ih)
theorem Rch.join {S : Nat → Prop} (hS : ∀ b c v, S b → ¬ Z b → E b c → Rch E Z D c v → S v) (c v : Nat) : ((D v ∨ S v) ∨ Rch E Z (fun x => D x ∨ S x) c v) ↔ (D v ∨ (S v ∨ Rch E Z D c v)) := by
  constructor
  · rintro ((h | h) | h)
    · exact .inl h
    · exact .inr (.inl h)
    · exact .inr (.inr (h.mono (fun x hx => .inl hx)))
  · rintro (h | h | h)
    · exact .inl (.inl h)
    · exact .inl (.inr h)
    · rcases h.cut hS with h | h
      · exact .inl (.inr h)
      · exact .inr h
/-- the vertex a taken away: what is reached from c is a, or reached beside a, or reached from a neighbour of a beside a -/
theorem Rch.off {a c v : Nat} (h : Rch E Z D c v) : v = a ∨ Rch E Z (fun x => D x ∨ x = a) c v ∨ ∃ d, E a d ∧ Rch E Z (fun x => D x ∨ x = a) d v := by
  induction h with
  | @here c h1 =>
    by_cases e : c = a
    · exact .inl e
    · exact .inr (.inl (.here (fun h => h.elim h1 e)))
  | @step c d v h1 h2 h3 h4 ih =>
    rcases ih with ih | ih | ih
    · exact .inl ih
    · by_cases e : c = a
      · subst e; exact .inr (.inr ⟨d, h3, ih⟩)
      · exact .inr (.inl (.step (fun h => h.elim h1 e) h2 h3 ih))
    · exact .inr (.inr ih)
theorem Rch.open_ {a v : Nat} (ha : ¬ D a) (hz : ¬ Z a) : Rch E Z D a v ↔ v = a ∨ ∃ d, E a d ∧ Rch E Z (fun x => D x ∨ x = a) d v := by
  constructor
  · intro h
    cases h with
    | here => exact .inl rfl
    | step _ _ h3 h4 =>
      rcases h4.off (a := a) with h | h | h
      · exact .inl h
      · exact .inr ⟨_, h3, h⟩
      · exact .inr h
  · rintro (rfl | ⟨d, h1, h2⟩)
    · exact .here ha
    · exact .step ha hz h1 (h2.mono (fun x hx => .inl hx))
theorem Rch.stop {a v : Nat} (ha : ¬ D a) (hz : Z a) : Rch E Z D a v ↔ v = a := by
  constructor
  · intro h
    cases h with
    | here => rfl
    | step _ h2 _ _ => exact absurd hz h2
  · rintro rfl; exact .here ha
/-- marks behind the first k neighbours -/
def Mk (E : Nat → Nat → Prop) (Z D : Nat → Prop) (cs : List Nat) (v : Nat) : Prop := D v ∨ ∃ c, c ∈ cs ∧ Rch E Z D c v
theorem Mk.snoc {cs : List Nat} {c : Nat} (v : Nat) : (Mk E Z D cs v ∨ Rch E Z (Mk E Z D cs) c v) ↔ Mk E Z D (cs ++ [c]) v := by
  have := Rch.join (E := E) (Z := Z) (D := D) (S := fun x => ∃ c, c ∈ cs ∧ Rch E Z D c x) (fun b c v ⟨d, h1, h2⟩ hz he hr => ⟨d, h1, h2.on hz he hr⟩) c v
  unfold Mk
  rw [this]
  constructor
  · rintro (h | ⟨d, h1, h2⟩ | h)
    · exact .inl h
    · exact .inr ⟨d, by simp [h1], h2⟩
    · exact .inr ⟨c, by simp, h⟩
  · rintro (h | ⟨d, h1, h2⟩)
    · exact .inl h
    · rcases List.mem_append.1 h1 with h1 | h1
      · exact .inr (.inl ⟨d, h1, h2⟩)
      · rw [List.mem_singleton] at h1; subst h1; exact .inr (.inr h2)
theorem Mk.nil (v : Nat) : Mk E Z D [] v ↔ D v := by unfold Mk; simp
/-- two markings, one after the other -/
theorem Rch.two (a b v : Nat) : ((D v ∨ Rch E Z D a v) ∨ Rch E Z (fun x => D x ∨ Rch E Z D a x) b v) ↔ D v ∨ Rch E Z D a v ∨ Rch E Z D b v :=
  Rch.join (fun _ _ _ h hz he hr => h.on hz he hr) b v
theorem Rch.swap (a b v : Nat) : ((D v ∨ Rch E Z D a v) ∨ Rch E Z (fun x => D x ∨ Rch E Z D a x) b v) ↔ ((D v ∨ Rch E Z D b v) ∨ Rch E Z (fun x => D x ∨ Rch E Z D b x) a v) := by
  rw [Rch.two, Rch.two]
  constructor
  · rintro (h | h | h)
    · exact .inl h
    · exact .inr (.inr h)
    · exact .inr (.inl h)
  · rintro (h | h | h)
    · exact .inl h
    · exact .inr (.inr h)
    · exact .inr (.inl h)
end
end Go.Proofs.Ytebecbidodnneaa
