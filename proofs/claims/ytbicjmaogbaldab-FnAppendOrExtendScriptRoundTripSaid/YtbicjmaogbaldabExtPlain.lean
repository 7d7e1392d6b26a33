/-
  The plain side of FnAppendOrExtendScriptRoundTrip: what folding appendOrExtendPartRange over a sequence of (source, part) pairs leaves. No program in sight.
-/
import Derived.Test.YtbicjmaogbaldabInts
namespace Go.Proofs.Ytbicjmaogbaldab

/-- three lists side by side: the ranges' sources, begins, ends -/
structure Rg where
  S : List Int
  B : List Int
  E : List Int

def Rg.step (R : Rg) (s p : Int) : Rg :=
  if 0 < R.S.length ∧ nth R.S (R.S.length - 1) = s ∧ nth R.E (R.S.length - 1) = p then ⟨R.S, R.B, R.E.set (R.S.length - 1) (p + 1)⟩
  else ⟨R.S ++ [s], R.B ++ [p], R.E ++ [p + 1]⟩

def Rg.even (R : Rg) : Prop := R.B.length = R.S.length ∧ R.E.length = R.S.length

def fold (S P : List Int) : Nat → Rg
  | 0 => ⟨[], [], []⟩
  | k + 1 => (fold S P k).step (nth S k) (nth P k)

/-- the count that the law makes -/
def cont (S P : List Int) (i : Nat) : Prop := nth S i = nth S (i - 1) ∧ nth P i = nth P (i - 1) + 1
instance (S P : List Int) (i : Nat) : Decidable (cont S P i) := by unfold cont; infer_instance
def cnt (S P : List Int) : Nat → Nat
  | 0 => 0
  | 1 => 1
  | k + 2 => cnt S P (k + 1) + if cont S P (k + 1) then 0 else 1

/-- how many pairs lie ahead of range r -/
def off (R : Rg) : Nat → Int
  | 0 => 0
  | r + 1 => off R r + (nth R.E r - nth R.B r)

structure Good (S P : List Int) (k : Nat) (R : Rg) : Prop where
  even : R.even
  len : R.S.length = cnt S P k
  lt : ∀ r, r < R.S.length → nth R.B r < nth R.E r
  apart : ∀ r, 0 < r → r < R.S.length → ¬ (nth R.S r = nth R.S (r - 1) ∧ nth R.B r = nth R.E (r - 1))
  tile : ∀ r, r < R.S.length → ∀ q : Int, nth R.B r ≤ q → q < nth R.E r → 0 ≤ off R r + (q - nth R.B r) ∧ off R r + (q - nth R.B r) < k ∧ nth S (off R r + (q - nth R.B r)).toNat = nth R.S r ∧ nth P (off R r + (q - nth R.B r)).toNat = q
  all : off R R.S.length = k
  last : 0 < k → 0 < R.S.length ∧ nth R.S (R.S.length - 1) = nth S (k - 1) ∧ nth R.E (R.S.length - 1) = nth P (k - 1) + 1

theorem nth_app_l (xs ys : List Int) (i : Nat) (h : i < xs.length) : nth (xs ++ ys) i = nth xs i := by simp [nth, List.getElem?_append_left h]
theorem nth_app_r (xs : List Int) (y : Int) : nth (xs ++ [y]) xs.length = y := by simp [nth]

theorem off_same {R R' : Rg} (r : Nat) (h : ∀ i, i < r → nth R'.E i = nth R.E i ∧ nth R'.B i = nth R.B i) : off R' r = off R r := by
  induction r with
  | zero => rfl
  | succ r ih =>
    show off R' r + _ = off R r + _
    rw [ih (fun i hi => h i (by omega)), (h r (by omega)).1, (h r (by omega)).2]

theorem off_nonneg {R : Rg} (n : Nat) (h : ∀ r, r < n → nth R.B r < nth R.E r) : ∀ r, r ≤ n → 0 ≤ off R r := by
  intro r
  induction r with
  | zero => intro _; exact Int.le_refl _
  | succ r ih => intro hr; have := ih (by omega); have := h r (by omega); show 0 ≤ off R r + (nth R.E r - nth R.B r); omega

theorem good_zero (S P : List Int) : Good S P 0 (fold S P 0) :=
  ⟨⟨rfl, rfl⟩, rfl, fun r h => by simp [fold] at h, fun r _ h => by simp [fold] at h, fun r h => by simp [fold] at h, rfl, fun h => by omega⟩

theorem good_step (S P : List Int) (k : Nat) (R : Rg) (g : Good S P k R) : Good S P (k + 1) (R.step (nth S k) (nth P k)) := by
  obtain ⟨⟨eB, eE⟩, hlen, hlt, hap, htile, hall, hlast⟩ := g
  by_cases h : 0 < R.S.length ∧ nth R.S (R.S.length - 1) = nth S k ∧ nth R.E (R.S.length - 1) = nth P k
  · have e : R.step (nth S k) (nth P k) = ⟨R.S, R.B, R.E.set (R.S.length - 1) (nth P k + 1)⟩ := by unfold Rg.step; rw [if_pos h]
    rw [e]
    obtain ⟨h0, h1, h2⟩ := h
    have hk : 0 < k := by
      rcases Nat.eq_zero_or_pos k with rfl | hk
      · have : R.S.length = 0 := hlen
        omega
      · exact hk
    obtain ⟨_, l1, l2⟩ := hlast hk
    have hE : ∀ r, nth (R.E.set (R.S.length - 1) (nth P k + 1)) r = if r = R.S.length - 1 then nth P k + 1 else nth R.E r := fun r => nth_set _ _ _ _ (by omega)
    have hoff : ∀ r, r ≤ R.S.length - 1 → off ⟨R.S, R.B, R.E.set (R.S.length - 1) (nth P k + 1)⟩ r = off R r := fun r hr => off_same r fun i hi => ⟨by rw [hE, if_neg (by omega)], rfl⟩
    have hlast' : off R R.S.length = off R (R.S.length - 1) + (nth R.E (R.S.length - 1) - nth R.B (R.S.length - 1)) := by
      obtain ⟨m, hm⟩ : ∃ m, R.S.length = m + 1 := ⟨R.S.length - 1, by omega⟩
      rw [hm]; rfl
    have hc : cont S P k := ⟨by rw [← h1, l1], by rw [← h2, l2]⟩
    have hnn := off_nonneg R.S.length hlt (R.S.length - 1) (by omega)
    have hl := hlt (R.S.length - 1) (by omega)
    refine ⟨⟨eB, by simp [eE]⟩, ?_, ?_, ?_, ?_, ?_, ?_⟩
    · obtain ⟨m, rfl⟩ : ∃ m, k = m + 1 := ⟨k - 1, by omega⟩
      show R.S.length = cnt S P (m + 1) + _
      rw [if_pos hc, hlen]; rfl
    · intro r hr
      show nth R.B r < nth (R.E.set (R.S.length - 1) (nth P k + 1)) r
      rw [hE]
      split
      · next c => rw [c]; omega
      · exact hlt r hr
    · intro r hr0 hr
      show ¬ (nth R.S r = nth R.S (r - 1) ∧ nth R.B r = nth (R.E.set (R.S.length - 1) (nth P k + 1)) (r - 1))
      rw [hE, if_neg (by have : r < R.S.length := hr; omega)]
      exact hap r hr0 hr
    · intro r hr q hq1 hq2
      have hr' : r < R.S.length := hr
      have hq1' : nth R.B r ≤ q := hq1
      have hq2' : q < nth (R.E.set (R.S.length - 1) (nth P k + 1)) r := hq2
      rw [hE] at hq2'
      show 0 ≤ off _ r + (q - nth R.B r) ∧ off _ r + (q - nth R.B r) < _ ∧ nth S (off _ r + (q - nth R.B r)).toNat = nth R.S r ∧ _
      rw [hoff r (by omega)]
      by_cases c : r = R.S.length - 1
      · rw [if_pos c] at hq2'
        by_cases cq : q = nth P k
        · subst c cq
          have hv : off R (R.S.length - 1) + (nth P k - nth R.B (R.S.length - 1)) = k := by omega
          show 0 ≤ off R (R.S.length - 1) + (nth P k - nth R.B (R.S.length - 1)) ∧ off R (R.S.length - 1) + (nth P k - nth R.B (R.S.length - 1)) < _ ∧ nth S (off R (R.S.length - 1) + (nth P k - nth R.B (R.S.length - 1))).toNat = _ ∧ nth P (off R (R.S.length - 1) + (nth P k - nth R.B (R.S.length - 1))).toNat = _
          rw [hv]
          exact ⟨by omega, by omega, by simpa using h1.symm, by simp⟩
        · have := htile r hr' q hq1' (by rw [c, h2]; omega)
          exact ⟨this.1, by omega, this.2.2⟩
      · rw [if_neg c] at hq2'
        have := htile r hr' q hq1' hq2'
        exact ⟨this.1, by omega, this.2.2⟩
    · obtain ⟨m, hm⟩ : ∃ m, R.S.length = m + 1 := ⟨R.S.length - 1, by omega⟩
      show off _ R.S.length = _
      have h3 := hoff m (by omega)
      have h4 := hE m
      rw [if_pos (by omega)] at h4
      rw [hm] at hlast' hall
      simp only [Nat.add_sub_cancel] at hlast'
      have h5 : nth R.E m = nth P k := by rw [← h2, hm]; rfl
      rw [hm] at h3 h4 ⊢
      simp only [Nat.add_sub_cancel] at h3 h4 ⊢
      show off _ m + (nth (R.E.set m (nth P k + 1)) m - nth R.B m) = _
      rw [h3, h4]
      omega
    · intro _
      refine ⟨h0, ?_, ?_⟩
      · show nth R.S (R.S.length - 1) = nth S (k + 1 - 1)
        exact h1
      · show nth (R.E.set (R.S.length - 1) (nth P k + 1)) (R.S.length - 1) = nth P (k + 1 - 1) + 1
        rw [hE, if_pos rfl]; rfl
  · have e : R.step (nth S k) (nth P k) = ⟨R.S ++ [nth S k], R.B ++ [nth P k], R.E ++ [nth P k + 1]⟩ := by unfold Rg.step; rw [if_neg h]
    rw [e]
    have oS : ∀ i, i < R.S.length → nth (R.S ++ [nth S k]) i = nth R.S i := fun i hi => nth_app_l _ _ _ hi
    have oB : ∀ i, i < R.S.length → nth (R.B ++ [nth P k]) i = nth R.B i := fun i hi => nth_app_l _ _ _ (by omega)
    have oE : ∀ i, i < R.S.length → nth (R.E ++ [nth P k + 1]) i = nth R.E i := fun i hi => nth_app_l _ _ _ (by omega)
    have nS : nth (R.S ++ [nth S k]) R.S.length = nth S k := nth_app_r _ _
    have nB : nth (R.B ++ [nth P k]) R.S.length = nth P k := by rw [← eB]; exact nth_app_r _ _
    have nE : nth (R.E ++ [nth P k + 1]) R.S.length = nth P k + 1 := by rw [← eE]; exact nth_app_r _ _
    have hoff : ∀ r, r ≤ R.S.length → off ⟨R.S ++ [nth S k], R.B ++ [nth P k], R.E ++ [nth P k + 1]⟩ r = off R r := fun r hr => off_same r fun i hi => ⟨oE i (by omega), oB i (by omega)⟩
    have hl1 : (R.S ++ [nth S k]).length = R.S.length + 1 := by simp
    refine ⟨⟨by simp [eB], by simp [eE]⟩, ?_, ?_, ?_, ?_, ?_, ?_⟩
    · show (R.S ++ [nth S k]).length = _
      rw [hl1]
      rcases Nat.eq_zero_or_pos k with rfl | hk
      · have : R.S.length = 0 := hlen
        rw [this]; rfl
      · obtain ⟨m, rfl⟩ : ∃ m, k = m + 1 := ⟨k - 1, by omega⟩
        obtain ⟨l0, l1, l2⟩ := hlast hk
        have hc : ¬ cont S P (m + 1) := fun c => h ⟨l0, by rw [l1]; exact c.1.symm, by rw [l2]; exact c.2.symm⟩
        show R.S.length + 1 = cnt S P (m + 1) + _
        rw [if_neg hc, hlen]
    · intro r hr
      have hr' : r < R.S.length + 1 := by rw [← hl1]; exact hr
      show nth (R.B ++ [nth P k]) r < nth (R.E ++ [nth P k + 1]) r
      rcases (show r = R.S.length ∨ r < R.S.length by omega) with rfl | hlt'
      · rw [nB, nE]; omega
      · rw [oB r hlt', oE r hlt']; exact hlt r hlt'
    · intro r hr0 hr
      have hr' : r < R.S.length + 1 := by rw [← hl1]; exact hr
      show ¬ (nth (R.S ++ [nth S k]) r = nth (R.S ++ [nth S k]) (r - 1) ∧ nth (R.B ++ [nth P k]) r = nth (R.E ++ [nth P k + 1]) (r - 1))
      rcases (show r = R.S.length ∨ r < R.S.length by omega) with rfl | hlt'
      · rw [nS, nB, oS _ (by omega), oE _ (by omega)]
        rintro ⟨c1, c2⟩
        exact h ⟨hr0, c1.symm, c2.symm⟩
      · rw [oS _ hlt', oS _ (by omega), oB _ hlt', oE _ (by omega)]
        exact hap r hr0 hlt'
    · intro r hr q hq1 hq2
      have hr' : r < R.S.length + 1 := by rw [← hl1]; exact hr
      have hq1' : nth (R.B ++ [nth P k]) r ≤ q := hq1
      have hq2' : q < nth (R.E ++ [nth P k + 1]) r := hq2
      show 0 ≤ off _ r + (q - nth (R.B ++ [nth P k]) r) ∧ off _ r + (q - nth (R.B ++ [nth P k]) r) < _ ∧ nth S (off _ r + (q - nth (R.B ++ [nth P k]) r)).toNat = nth (R.S ++ [nth S k]) r ∧ nth P (off _ r + (q - nth (R.B ++ [nth P k]) r)).toNat = q
      rw [hoff r (by omega)]
      rcases (show r = R.S.length ∨ r < R.S.length by omega) with rfl | hlt'
      · rw [nB] at hq1' ⊢
        rw [nE] at hq2'
        rw [nS]
        obtain rfl : q = nth P k := by omega
        rw [hall]
        exact ⟨by omega, by omega, by simp, by simp⟩
      · rw [oB r hlt'] at hq1' ⊢
        rw [oE r hlt'] at hq2'
        rw [oS r hlt']
        have := htile r hlt' q hq1' hq2'
        exact ⟨this.1, by omega, this.2.2⟩
    · show off _ (R.S ++ [nth S k]).length = _
      rw [hl1]
      show off _ R.S.length + (nth (R.E ++ [nth P k + 1]) R.S.length - nth (R.B ++ [nth P k]) R.S.length) = _
      rw [hoff _ (Nat.le_refl _), nE, nB, hall]
      omega
    · intro _
      show 0 < (R.S ++ [nth S k]).length ∧ nth (R.S ++ [nth S k]) ((R.S ++ [nth S k]).length - 1) = _ ∧ nth (R.E ++ [nth P k + 1]) ((R.S ++ [nth S k]).length - 1) = _
      rw [hl1]
      exact ⟨by omega, nS, nE⟩

theorem good_all (S P : List Int) : ∀ k, Good S P k (fold S P k)
  | 0 => good_zero S P
  | k + 1 => good_step S P k _ (good_all S P k)
end Go.Proofs.Ytbicjmaogbaldab
