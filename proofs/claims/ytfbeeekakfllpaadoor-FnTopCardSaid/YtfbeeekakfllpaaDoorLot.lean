/-
  The lines of a text, in plain words: where runes begin, UTF-16 columns, line starts, the closed lines; what the table of a line says. No statement of the seat is proved here.
-/
import Derived.Test.YtfbeeekakfllpaaDoorOwn
namespace Go.Proofs.YtfbeeekakfllpaaDoor
open Go.RowKit
set_option linter.unusedVariables false
def byteAt (s : ByteArray) (i : Nat) : Nat := (s.get! i).toNat
theorem byteAt_lt (s : ByteArray) (i : Nat) : byteAt s i < 256 := (s.get! i).toNat_lt
theorem byteAt_get (s : ByteArray) (i : Nat) (h : i < s.size) : (s[i]'h).toNat = byteAt s i := by unfold byteAt; rw [get!_at s i h]
def wd (s : ByteArray) (k : Nat) : Nat := (Utf8.decode s k).2
def cpt (s : ByteArray) (k : Nat) : Nat := (Utf8.decode s k).1
def un (s : ByteArray) (k : Nat) : Nat := if cpt s k ≤ 65535 then 1 else 2
/-- the rune at k ends a line -/
def tm (s : ByteArray) (k : Nat) : Bool := decide (cpt s k = 10 ∨ cpt s k = 8232 ∨ cpt s k = 8233 ∨ (cpt s k = 13 ∧ ¬ (k + 1 < s.size ∧ byteAt s (k + 1) = 10)))
/-- the first rune start at k or later -/
def ns (s : ByteArray) : Nat → Nat
  | 0 => 0
  | k + 1 => if ns s k = k then k + wd s k else ns s k
/-- UTF-16 units of the runes that start before k -/
def U (s : ByteArray) : Nat → Nat
  | 0 => 0
  | k + 1 => U s k + (if ns s k = k then un s k else 0)
/-- the start of the line that k lies in -/
def LS (s : ByteArray) : Nat → Nat
  | 0 => 0
  | k + 1 => if ns s k = k ∧ tm s k = true then k + wd s k else LS s k
/-- the lines that end before k: where they start, where the rune that ends them starts -/
def T (s : ByteArray) : Nat → List (Nat × Nat)
  | 0 => []
  | k + 1 => if ns s k = k ∧ tm s k = true then T s k ++ [(LS s k, k)] else T s k
theorem wd_pos (s : ByteArray) (k : Nat) (h : k < s.size) : 1 ≤ wd s k := width_pos s k h
theorem wd_le (s : ByteArray) (k : Nat) (h : k < s.size) : k + wd s k ≤ s.size := by
  unfold wd
  by_cases ha : (s[k]'h).toNat < 128
  · rw [decode_ascii s k h ha]; show k + 1 ≤ s.size; omega
  · exact (high_bytes s k h (by omega)).1
theorem wd_ascii (s : ByteArray) (k : Nat) (h : k < s.size) (hb : byteAt s k < 128) : wd s k = 1 ∧ cpt s k = byteAt s k := by
  have := byteAt_get s k h
  unfold wd cpt; rw [decode_ascii s k h (by omega)]
  exact ⟨rfl, by simpa using this⟩
theorem cpt_high (s : ByteArray) (k : Nat) (h : k < s.size) (hb : 128 ≤ byteAt s k) : 128 ≤ cpt s k := by
  have := byteAt_get s k h
  exact (decode_high s k h (by omega)).1
theorem cpt_small (s : ByteArray) (k : Nat) (h : k < s.size) (hc : cpt s k < 128) : byteAt s k = cpt s k := by
  by_cases hb : byteAt s k < 128
  · exact (wd_ascii s k h hb).2.symm
  · have := cpt_high s k h (by omega); omega
theorem un_pos (s : ByteArray) (k : Nat) : 1 ≤ un s k ∧ un s k ≤ 2 := by unfold un; split <;> omega
theorem U_succ (s : ByteArray) (k : Nat) : U s k ≤ U s (k + 1) ∧ U s (k + 1) ≤ U s k + 2 := by
  have := un_pos s k
  rw [show U s (k + 1) = U s k + (if ns s k = k then un s k else 0) from rfl]; split <;> omega
theorem U_mono (s : ByteArray) (a n : Nat) : U s a ≤ U s (a + n) := by
  induction n with
  | zero => exact Nat.le_refl _
  | succ n ih => have := (U_succ s (a + n)).1; rw [← Nat.add_assoc]; omega
theorem U_mono' (s : ByteArray) {a b : Nat} (h : a ≤ b) : U s a ≤ U s b := by
  obtain ⟨n, rfl⟩ := Nat.exists_eq_add_of_le h
  exact U_mono s a n
theorem U_le (s : ByteArray) (k : Nat) : U s k ≤ 2 * k := by
  induction k with
  | zero => exact Nat.le_refl _
  | succ k ih => have := (U_succ s k).2; omega
theorem T_len (s : ByteArray) (k : Nat) : (T s k).length ≤ k := by
  induction k with
  | zero => exact Nat.le_refl _
  | succ k ih =>
    rw [T]; split
    · rw [List.length_append]; simp; omega
    · omega
/-- one rune on -/
theorem adv (s : ByteArray) (i : Nat) (hb : ns s i = i) (hl : i < s.size) : ∀ d, 1 ≤ d → d ≤ wd s i → ns s (i + d) = i + wd s i ∧ U s (i + d) = U s i + un s i ∧ LS s (i + d) = (if tm s i = true then i + wd s i else LS s i) ∧ T s (i + d) = (if tm s i = true then T s i ++ [(LS s i, i)] else T s i) := by
  intro d h1 hd
  induction d with
  | zero => omega
  | succ d ih =>
    by_cases h0 : d = 0
    · subst h0
      refine ⟨?_, ?_, ?_, ?_⟩
      · show (if ns s i = i then i + wd s i else ns s i) = _; rw [if_pos hb]
      · show U s i + (if ns s i = i then un s i else 0) = _; rw [if_pos hb]
      · show (if ns s i = i ∧ tm s i = true then i + wd s i else LS s i) = _; simp only [hb, true_and]
      · show (if ns s i = i ∧ tm s i = true then T s i ++ [(LS s i, i)] else T s i) = _; simp only [hb, true_and]
    · obtain ⟨a1, a2, a3, a4⟩ := ih (by omega) (by omega)
      have hne : ¬ (ns s (i + d) = i + d) := by rw [a1]; omega
      refine ⟨?_, ?_, ?_, ?_⟩
      · show (if ns s (i + d) = i + d then _ else ns s (i + d)) = _; rw [if_neg hne]; exact a1
      · show U s (i + d) + (if ns s (i + d) = i + d then _ else 0) = _; rw [if_neg hne]; exact a2
      · show (if ns s (i + d) = i + d ∧ _ then _ else LS s (i + d)) = _; rw [if_neg (fun c => hne c.1)]; exact a3
      · show (if ns s (i + d) = i + d ∧ _ then _ else T s (i + d)) = _; rw [if_neg (fun c => hne c.1)]; exact a4
/-- a rune start, and what goes with it -/
structure Bd (s : ByteArray) (i : Nat) : Prop where
  at_ : ns s i = i
  le : i ≤ s.size
  ls : LS s i ≤ i
  lt : LS s i < i → U s (LS s i) < U s i
  lsb : ns s (LS s i) = LS s i
theorem Bd.zero (s : ByteArray) : Bd s 0 := ⟨rfl, Nat.zero_le _, Nat.le_refl _, fun h => absurd h (Nat.lt_irrefl _), rfl⟩
theorem Bd.next {s : ByteArray} {i : Nat} (h : Bd s i) (hl : i < s.size) : Bd s (i + wd s i) := by
  have hw := wd_pos s i hl
  obtain ⟨a1, a2, a3, a4⟩ := adv s i h.at_ hl (wd s i) hw (Nat.le_refl _)
  refine ⟨a1, wd_le s i hl, ?_, ?_, ?_⟩
  · rw [a3]; split
    · exact Nat.le_refl _
    · have := h.ls; omega
  · rw [a3, a2]
    split
    · intro c; omega
    · intro _
      have := U_mono' s h.ls
      have := (un_pos s i).1
      omega
  · rw [a3]; split
    · exact a1
    · exact h.lsb
/-- no byte of 128 or more in [a, b) -/
def NoNA (s : ByteArray) (a b : Nat) : Prop := ∀ j, a ≤ j → j < b → byteAt s j < 128
/-- f is the first byte of 128 or more from a on -/
def FirstNA (s : ByteArray) (a f : Nat) : Prop := a ≤ f ∧ f < s.size ∧ 128 ≤ byteAt s f ∧ NoNA s a f
theorem firstNA_uniq {s : ByteArray} {a f g : Nat} (h : FirstNA s a f) (k : FirstNA s a g) : f = g := by
  obtain ⟨h1, h2, h3, h4⟩ := h
  obtain ⟨k1, k2, k3, k4⟩ := k
  rcases Nat.lt_trichotomy f g with c | c | c
  · have := k4 f h1 c; omega
  · exact c
  · have := h4 g k1 c; omega
/-- the columns from byte f of a line on, n of them -/
def cols (s : ByteArray) (st f n : Nat) : List Int := (List.range n).map fun o => ((U s (st + f + o) : Int) - (U s st : Int))
theorem cols_length (s : ByteArray) (st f n : Nat) : (cols s st f n).length = n := by simp [cols]
theorem cols_snoc (s : ByteArray) (st f n : Nat) : cols s st f n ++ [((U s (st + f + n) : Int) - (U s st : Int))] = cols s st f (n + 1) := by simp [cols, List.range_succ]
theorem cols_nth (s : ByteArray) (st f n o : Nat) (h : o < n) : nth (cols s st f n) o = (U s (st + f + o) : Int) - (U s st : Int) := by
  unfold nth cols; simp [h]
/-- what the table of the line [st, e] says: its columns (none: nil), the offset of the first non-ASCII byte -/
def Entry (s : ByteArray) (st e : Nat) (c : Option (List Int)) (f : Nat) : Prop :=
  (c = none ∧ f = 0 ∧ ∀ j, st ≤ j → j ≤ e → j < s.size → byteAt s j < 128) ∨ (FirstNA s st (st + f) ∧ st + f ≤ e ∧ c = some (cols s st f (e - (st + f) + 1)))
/-- the columns of the line at ls, at the head of a round at rune start i: none, or those of the bytes from f to cbo (cbo apart) -/
def CS (s : ByteArray) (i ls : Nat) (c : Option (List Int)) (f cbo : Nat) : Prop :=
  (c = none ∧ NoNA s ls i ∧ cbo = 0 ∧ f = 0) ∨ (FirstNA s ls (ls + f) ∧ ls + f < i ∧ c = some (cols s ls f (cbo - f)) ∧ f ≤ cbo ∧ ls + cbo ≤ i ∧ ∀ k, ls + cbo ≤ k → k ≤ i → U s k = U s i)
/-- .. behind the update at i -/
def CM (s : ByteArray) (i ls : Nat) (c : Option (List Int)) (f cbo : Nat) : Prop :=
  (c = none ∧ NoNA s ls (i + 1) ∧ cbo = 0 ∧ f = 0) ∨ (FirstNA s ls (ls + f) ∧ ls + f ≤ i ∧ c = some (cols s ls f (i - (ls + f) + 1)) ∧ cbo = i - ls + 1)
/-- .. while the bytes up to i are appended: k the next one -/
def CI (s : ByteArray) (i ls f k : Nat) (zs : List Int) : Prop := FirstNA s ls (ls + f) ∧ ls + f ≤ i ∧ f ≤ k ∧ ls + k ≤ i + 1 ∧ zs = cols s ls f (k - f) ∧ ∀ j, ls + k ≤ j → j ≤ i → U s j = U s i
theorem CI.start_new {s : ByteArray} {i ls f cbo : Nat} (h : CS s i ls none f cbo) (hls : ls ≤ i) (hi : i < s.size) (hb : 128 ≤ byteAt s i) : CI s i ls (i - ls) (i - ls) [] := by
  rcases h with ⟨_, hn, _, _⟩ | ⟨_, _, hc, _⟩
  · have e : ls + (i - ls) = i := by omega
    refine ⟨⟨by omega, by omega, by rw [e]; exact hb, by rw [e]; exact hn⟩, by omega, Nat.le_refl _, by omega, by simp [cols], fun j h1 h2 => ?_⟩
    rw [show j = i by omega]
  · cases hc
theorem CI.start_old {s : ByteArray} {i ls f cbo : Nat} {zs : List Int} (h : CS s i ls (some zs) f cbo) : CI s i ls f cbo zs := by
  rcases h with ⟨hc, _⟩ | ⟨h1, h2, hc, h3, h4, h5⟩
  · cases hc
  · cases hc; exact ⟨h1, by omega, h3, by omega, rfl, h5⟩
theorem CI.push {s : ByteArray} {i ls f k : Nat} {zs : List Int} (h : CI s i ls f k zs) (hk : k ≤ i - ls) (hls : ls ≤ i) : CI s i ls f (k + 1) (zs ++ [(U s i : Int) - (U s ls : Int)]) := by
  obtain ⟨h1, h2, h3, h4, rfl, h6⟩ := h
  refine ⟨h1, h2, by omega, by omega, ?_, fun j hj1 hj2 => h6 j (by omega) hj2⟩
  have := cols_snoc s ls f (k - f)
  rw [show ls + f + (k - f) = ls + k by omega, h6 (ls + k) (Nat.le_refl _) (by omega)] at this
  rw [this, show k + 1 - f = k - f + 1 by omega]
theorem CI.stop {s : ByteArray} {i ls f k : Nat} {zs : List Int} (h : CI s i ls f k zs) (hk : ¬ k ≤ i - ls) (hls : ls ≤ i) : CM s i ls (some zs) f k := by
  obtain ⟨h1, h2, h3, h4, rfl, h6⟩ := h
  have e : k = i - ls + 1 := by omega
  subst e
  exact .inr ⟨h1, h2, by rw [show i - ls + 1 - f = i - (ls + f) + 1 by omega], rfl⟩
theorem CM.none {s : ByteArray} {i ls f cbo : Nat} (h : CS s i ls none f cbo) (hb : byteAt s i < 128) : CM s i ls none f cbo := by
  rcases h with ⟨_, hn, h1, h2⟩ | ⟨_, _, hc, _⟩
  · refine .inl ⟨rfl, fun j hj1 hj2 => ?_, h1, h2⟩
    rcases (show j = i ∨ j < i by omega) with rfl | hl
    · exact hb
    · exact hn j hj1 hl
  · cases hc
theorem CM.entry {s : ByteArray} {i ls f cbo : Nat} {c : Option (List Int)} (h : CM s i ls c f cbo) : Entry s ls i c f := by
  rcases h with ⟨h1, h2, _, h4⟩ | ⟨h1, h2, h3, _⟩
  · exact .inl ⟨h1, h4, fun j hj1 hj2 _ => h2 j hj1 (by omega)⟩
  · exact .inr ⟨h1, h2, h3⟩
theorem CM.next {s : ByteArray} {i ls f cbo : Nat} {c : Option (List Int)} (h : CM s i ls c f cbo) (hb : Bd s i) (hi : i < s.size) (hls : ls ≤ i) : CS s (i + wd s i) ls c f cbo := by
  have hw := wd_pos s i hi
  rcases h with ⟨h1, h2, h3, h4⟩ | ⟨h1, h2, h3, h4⟩
  · have := (wd_ascii s i hi (h2 i hls (by omega))).1
    rw [this]
    exact .inl ⟨h1, h2, h3, h4⟩
  · refine .inr ⟨h1, by omega, by rw [h3, h4]; rw [show i - ls + 1 - f = i - (ls + f) + 1 by omega], by omega, by omega, fun k hk1 hk2 => ?_⟩
    obtain ⟨d, rfl⟩ := Nat.exists_eq_add_of_le (show i ≤ k by omega)
    rw [(adv s i hb.at_ hi d (by omega) (by omega)).2.1, (adv s i hb.at_ hi (wd s i) hw (Nat.le_refl _)).2.1]
theorem CS.new (s : ByteArray) (i : Nat) : CS s i i none 0 0 := .inl ⟨rfl, fun j h1 h2 => by omega, rfl, rfl⟩
/-- at the text's end: the last line, whose end is the text's size -/
theorem CS.last_none {s : ByteArray} {ls f cbo : Nat} (h : CS s s.size ls none f cbo) : Entry s ls s.size none f := by
  rcases h with ⟨_, hn, _, h2⟩ | ⟨_, _, hc, _⟩
  · exact .inl ⟨rfl, h2, fun j hj1 _ hj3 => hn j hj1 hj3⟩
  · cases hc
end Go.Proofs.YtfbeeekakfllpaaDoor
