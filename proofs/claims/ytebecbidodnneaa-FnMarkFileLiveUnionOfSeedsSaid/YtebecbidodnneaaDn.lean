/-
  How many of the first n places bear no mark; marks that grow. Plain law. No statement of the seat is proved here.
-/
import Derived.Test.YtebecbidodnneaaGr
namespace Go.Proofs.Ytebecbidodnneaa

/-- the unmarked places below n -/
def cnt (d : Nat → Bool) : Nat → Nat | 0 => 0 | n + 1 => cnt d n + (if d n = true then 0 else 1)
theorem cnt_mono {d d' : Nat → Bool} (h : ∀ v, d v = true → d' v = true) : ∀ n, cnt d' n ≤ cnt d n
  | 0 => Nat.le_refl _
  | n + 1 => by
    have ih := cnt_mono h n
    unfold cnt
    by_cases e : d n = true
    · rw [if_pos e, if_pos (h n e)]; omega
    · rw [if_neg e]; split <;> omega
theorem cnt_mark {d : Nat → Bool} {a : Nat} (ha : d a = false) : ∀ n, a < n → cnt (fun v => d v || v == a) n + 1 ≤ cnt d n
  | 0, h => by omega
  | n + 1, h => by
    unfold cnt
    by_cases e : n = a
    · subst e
      have := cnt_mono (d := d) (d' := fun v => d v || v == n) (fun v hv => by simp [hv]) n
      simp [ha]
      omega
    · have ih := cnt_mark ha n (by omega)
      have e2 : (d n || n == a) = d n := by simp [e]
      rw [e2]
      omega
theorem cnt_zero {d : Nat → Bool} {a : Nat} : ∀ n, cnt d n = 0 → a < n → d a = true
  | 0, _, h => by omega
  | n + 1, h0, h => by
    unfold cnt at h0
    by_cases e : a = n
    · subst e
      by_cases hd : d a = true
      · exact hd
      · rw [if_neg hd] at h0; omega
    · exact cnt_zero n (by omega) (by omega)
/-- what a marking does to the values: each place newly marked (but those in Z) is turned by f, once -/
structure Upd (Z : Nat → Prop) (f : Nat → Int → Int) (d : Nat → Bool) (W : Nat → Int) (d' : Nat → Bool) (W' : Nat → Int) : Prop where
  mono : ∀ v, d v = true → d' v = true
  old : ∀ v, (d v = true ∨ d' v = false ∨ Z v) → W' v = W v
  new : ∀ v, d v = false → d' v = true → ¬ Z v → W' v = f v (W v)
theorem Upd.refl (Z : Nat → Prop) (f : Nat → Int → Int) (d : Nat → Bool) (W : Nat → Int) : Upd Z f d W d W :=
  ⟨fun _ h => h, fun _ _ => rfl, fun v h1 h2 _ => by rw [h1] at h2; cases h2⟩
theorem Upd.trans {Z : Nat → Prop} {f : Nat → Int → Int} {d d1 d2 : Nat → Bool} {W W1 W2 : Nat → Int} (h : Upd Z f d W d1 W1) (k : Upd Z f d1 W1 d2 W2) : Upd Z f d W d2 W2 := by
  refine ⟨fun v hv => k.mono v (h.mono v hv), fun v hv => ?_, fun v h1 h2 hz => ?_⟩
  · rcases hv with hv | hv | hv
    · rw [k.old v (.inl (h.mono v hv)), h.old v (.inl hv)]
    · have e1 : d1 v = false := by
        cases e : d1 v with
        | false => rfl
        | true => rw [k.mono v e] at hv; cases hv
      rw [k.old v (.inr (.inl hv)), h.old v (.inr (.inl e1))]
    · rw [k.old v (.inr (.inr hv)), h.old v (.inr (.inr hv))]
  · cases e : d1 v with
    | true => rw [k.old v (.inl e), h.new v h1 e hz]
    | false => rw [k.new v e h2 hz, h.old v (.inr (.inl e))]
/-- two markings with the same marks in the end leave the same values -/
theorem Upd.same {Z : Nat → Prop} {f : Nat → Int → Int} {d d1 d2 : Nat → Bool} {W W1 W2 : Nat → Int} (h : Upd Z f d W d1 W1) (k : Upd Z f d W d2 W2) (e : ∀ v, d1 v = d2 v) (v : Nat) : W1 v = W2 v := by
  by_cases hz : Z v
  · rw [h.old v (.inr (.inr hz)), k.old v (.inr (.inr hz))]
  · cases h0 : d v with
    | true => rw [h.old v (.inl h0), k.old v (.inl h0)]
    | false =>
      cases h1 : d1 v with
      | true => rw [h.new v h0 h1 hz, k.new v h0 (by rw [← e v]; exact h1) hz]
      | false => rw [h.old v (.inr (.inl h1)), k.old v (.inr (.inl (by rw [← e v]; exact h1)))]
/-- the marking of one place -/
theorem Upd.one {Z : Nat → Prop} {f : Nat → Int → Int} {d : Nat → Bool} {W : Nat → Int} {a : Nat} (hz : ¬ Z a) : Upd Z f d W (fun v => d v || v == a) (fun v => if v = a ∧ d a = false then f a (W a) else W v) := by
  refine ⟨fun v h => by simp [h], fun v hv => ?_, fun v h1 h2 h3 => ?_⟩
  · by_cases e : v = a ∧ d a = false
    · obtain ⟨rfl, e2⟩ := e
      rcases hv with hv | hv | hv
      · rw [hv] at e2; cases e2
      · simp at hv
      · exact absurd hv hz
    · rw [if_neg e]
  · have e : v = a := by simpa [h1] using h2
    subst e
    rw [if_pos ⟨rfl, h1⟩]
theorem Upd.zone {Z : Nat → Prop} {f : Nat → Int → Int} {d : Nat → Bool} {W : Nat → Int} {a : Nat} (hz : Z a) : Upd Z f d W (fun v => d v || v == a) W := by
  refine ⟨fun v h => by simp [h], fun _ _ => rfl, fun v h1 h2 h3 => ?_⟩
  have e : v = a := by simpa [h1] using h2
  subst e
  exact absurd hz h3
/-- what a marking from a leaves: marks, and the reach of a beside the marks that were there -/
def Mkd (E : Nat → Nat → Prop) (Z : Nat → Prop) (d : Nat → Bool) (a : Nat) (d' : Nat → Bool) : Prop := ∀ v, d' v = true ↔ (d v = true ∨ Rch E Z (fun x => d x = true) a v)
theorem Mkd.done {E : Nat → Nat → Prop} {Z : Nat → Prop} {d : Nat → Bool} {a : Nat} (ha : d a = true) : Mkd E Z d a d := fun _ =>
  ⟨.inl, fun h => h.elim id (fun h => absurd ha h.head)⟩
theorem Mkd.swap {E : Nat → Nat → Prop} {Z : Nat → Prop} {d d1 d2 d3 d4 : Nat → Bool} {a b : Nat} (h1 : Mkd E Z d a d1) (h2 : Mkd E Z d1 b d2) (h3 : Mkd E Z d b d3) (h4 : Mkd E Z d3 a d4) (v : Nat) : d2 v = d4 v := by
  have e1 : (fun x => d1 x = true) = (fun x => d x = true ∨ Rch E Z (fun x => d x = true) a x) := by funext x; exact propext (h1 x)
  have e3 : (fun x => d3 x = true) = (fun x => d x = true ∨ Rch E Z (fun x => d x = true) b x) := by funext x; exact propext (h3 x)
  have k2 := h2 v
  have k4 := h4 v
  rw [e1, h1 v] at k2
  rw [e3, h3 v] at k4
  rw [Bool.eq_iff_iff, k2, k4]
  exact Rch.swap (E := E) (Z := Z) (D := fun x => d x = true) a b v
/-- a place that does not go on -/
theorem Mkd.stop {E : Nat → Nat → Prop} {Z : Nat → Prop} {d : Nat → Bool} {a : Nat} (ha : d a = false) (hz : Z a) : Mkd E Z d a (fun v => d v || v == a) := fun v => by
  rw [Rch.stop (by rw [ha]; simp) hz]
  simp
/-- marks behind the first neighbours -/
def Mks (E : Nat → Nat → Prop) (Z : Nat → Prop) (d : Nat → Bool) (cs : List Nat) (d' : Nat → Bool) : Prop := ∀ v, d' v = true ↔ Mk E Z (fun x => d x = true) cs v
theorem Mks.nil {E : Nat → Nat → Prop} {Z : Nat → Prop} {d : Nat → Bool} : Mks E Z d [] d := fun v => (Mk.nil (E := E) (Z := Z) (D := fun x => d x = true) v).symm
theorem Mks.snoc {E : Nat → Nat → Prop} {Z : Nat → Prop} {d d1 d2 : Nat → Bool} {cs : List Nat} {c : Nat} (h : Mks E Z d cs d1) (k : Mkd E Z d1 c d2) : Mks E Z d (cs ++ [c]) d2 := fun v => by
  have e1 : (fun x => d1 x = true) = Mk E Z (fun x => d x = true) cs := by funext x; exact propext (h x)
  rw [k v, h v, e1]
  exact Mk.snoc (E := E) (Z := Z) (D := fun x => d x = true) v
theorem Mks.close {E : Nat → Nat → Prop} {Z : Nat → Prop} {d d' : Nat → Bool} {cs : List Nat} {a : Nat} (ha : d a = false) (hz : ¬ Z a) (hE : ∀ c, c ∈ cs ↔ E a c) (h : Mks E Z (fun v => d v || v == a) cs d') : Mkd E Z d a d' := fun v => by
  have e : (fun x => (d x || x == a) = true) = (fun x => d x = true ∨ x = a) := by funext x; simp
  rw [h v, Rch.open_ (by rw [ha]; simp) hz, e]
  unfold Mk
  constructor
  · rintro ((h | h) | ⟨c, h1, h2⟩)
    · exact .inl h
    · exact .inr (.inl h)
    · exact .inr (.inr ⟨c, (hE c).1 h1, h2⟩)
  · rintro (h | h | ⟨c, h1, h2⟩)
    · exact .inl (.inl h)
    · exact .inl (.inr h)
    · exact .inr ⟨c, (hE c).2 h1, h2⟩
end Go.Proofs.Ytebecbidodnneaa
