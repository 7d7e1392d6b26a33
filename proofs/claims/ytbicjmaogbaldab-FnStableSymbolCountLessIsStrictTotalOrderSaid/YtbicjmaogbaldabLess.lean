/-
  The contract of (StableSymbolCountArray).Less, and the plain order behind it. No statement of the seat is proved here.
-/
import Derived.Test.YtbicjmaogbaldabRows
import Derived.Test.YtbicjmaogbaldabInts
import Derived.WalkKit
import Derived.ProofKit
import Derived.OpenShut
import Derived.WalkSpells
import Derived.WalkLawsBesides
import Derived.LoopTactic
import Derived.RegionTactic
import Derived.BigRegion
import Derived.ChangeAlike
import Derived.Deep.QuietTactic
import Derived.BigQuiet
import Derived.Deep.RegionWith
import Derived.Deep.RegionHeld3
namespace Go.Proofs.Ytbicjmaogbaldab.fnStableSymbolCountLessIsStrictTotalOrder
open Go.ChangeShapes Go.WideShapes Go.ChangeAt Go.RowKit
set_option linter.unusedVariables false
/-! the plain side: the order on (count, stable source index, inner index), counts first and greater ones first -/
def keyLess (c s n c' s' n' : Int) : Bool := decide (c' < c) || (!decide (c < c') && (decide (s < s') || (!decide (s' < s) && decide (n < n'))))
theorem key_three (c s n c' s' n' : Int) : (keyLess c s n c' s' n' = true ∧ keyLess c' s' n' c s n = false ∧ ¬ (c = c' ∧ s = s' ∧ n = n')) ∨ (keyLess c s n c' s' n' = false ∧ keyLess c' s' n' c s n = true ∧ ¬ (c = c' ∧ s = s' ∧ n = n')) ∨
    (keyLess c s n c' s' n' = false ∧ keyLess c' s' n' c s n = false ∧ (c = c' ∧ s = s' ∧ n = n')) := by
  simp only [keyLess, Bool.or_eq_true, Bool.and_eq_true, Bool.not_eq_true', decide_eq_true_eq, decide_eq_false_iff_not, Bool.or_eq_false_iff, Bool.and_eq_false_iff, Bool.not_eq_false']
  omega
theorem key_trans (c s n c' s' n' c2 s2 n2 : Int) (h1 : keyLess c s n c' s' n' = true) (h2 : keyLess c' s' n' c2 s2 n2 = true) : keyLess c s n c2 s2 n2 = true := by
  simp only [keyLess, Bool.or_eq_true, Bool.and_eq_true, Bool.not_eq_true', decide_eq_true_eq, decide_eq_false_iff_not] at *
  omega

/-- the row: element m is (stable, source, inner, count) -/
def Quad (C S R N fl : List Int) (k : Nat) : Prop := fl.length = 12 ∧ ∀ m, m < k → nth fl (m * 4) = nth S m ∧ nth fl (m * 4 + 1) = nth R m ∧ nth fl (m * 4 + 2) = nth N m ∧ nth fl (m * 4 + 3) = nth C m
theorem quad_step {C S R N fl : List Int} {k : Nat} (h : Quad C S R N fl k) (hk : k < 3) :
    Quad C S R N ((((fl.set (k * 4) (nth S k)).set (k * 4 + 1) (nth R k)).set (k * 4 + 2) (nth N k)).set (k * 4 + 3) (nth C k)) (k + 1) := by
  obtain ⟨h1, h2⟩ := h
  refine ⟨by simp [h1], fun m hm => ?_⟩
  have e : ∀ x, nth ((((fl.set (k * 4) (nth S k)).set (k * 4 + 1) (nth R k)).set (k * 4 + 2) (nth N k)).set (k * 4 + 3) (nth C k)) x = if x = k * 4 + 3 then nth C k else if x = k * 4 + 2 then nth N k else if x = k * 4 + 1 then nth R k else if x = k * 4 then nth S k else nth fl x := by
    intro x
    rw [nth_set _ _ _ _ (by simp; omega), nth_set _ _ _ _ (by simp; omega), nth_set _ _ _ _ (by simp; omega), nth_set _ _ _ _ (by omega)]
  simp only [e]
  by_cases c : m = k
  · subst c
    refine ⟨?_, ?_, ?_, ?_⟩
    · rw [if_neg (by omega), if_neg (by omega), if_neg (by omega), if_pos rfl]
    · rw [if_neg (by omega), if_neg (by omega), if_pos rfl]
    · rw [if_neg (by omega), if_pos rfl]
    · rw [if_pos rfl]
  · have := h2 m (by omega)
    refine ⟨?_, ?_, ?_, ?_⟩ <;> rw [if_neg (by omega), if_neg (by omega), if_neg (by omega), if_neg (by omega)]
    · exact this.1
    · exact this.2.1
    · exact this.2.2.1
    · exact this.2.2.2

/-- Less by the lists -/
def ls (C S N : List Int) (i j : Nat) : Bool := keyLess (nth C i) (nth S i) (nth N i) (nth C j) (nth S j) (nth N j)

set_option maxHeartbeats 1000000 in
theorem less_any (g i j : Nat) (C S R N fl : List Int) (w : World) (hb : Blk w g 29 (ints .u32 fl)) (hQ : Quad C S R N fl 3) (hi : i < 3) (hj : j < 3) :
    Calls Try.prog 8 #[.slice (some ⟨g, 0, none⟩) 3 3, .int .i64 i, .int .i64 j] w fun e w' => e = .returned (.bool (ls C S N i j)) ∧ Below w.heap.size w w' := by
  have hl := hQ.1
  have qi := hQ.2 i hi
  have qj := hQ.2 j hj
  have i0 := hb.int (i := i * 4) (by omega)
  have i1 := hb.int (i := i * 4 + 1) (by omega)
  have i2 := hb.int (i := i * 4 + 2) (by omega)
  have i3 := hb.int (i := i * 4 + 3) (by omega)
  have j0 := hb.int (i := j * 4) (by omega)
  have j1 := hb.int (i := j * 4 + 1) (by omega)
  have j2 := hb.int (i := j * 4 + 2) (by omega)
  have j3 := hb.int (i := j * 4 + 3) (by omega)
  rw [qi.1] at i0
  rw [qi.2.1] at i1
  rw [qi.2.2.1] at i2
  rw [qi.2.2.2] at i3
  rw [qj.1] at j0
  rw [qj.2.1] at j1
  rw [qj.2.2.1] at j2
  rw [qj.2.2.2] at j3
  have hgl := hb.lt
  have hne : ¬ g = w.heap.size := by omega
  have hne1 : ¬ g = w.heap.size + 1 := by omega
  have bi : (i : Int) < 3 := by omega
  have bj : (j : Int) < 3 := by omega
  have HL := Lib.hid (show ls C S N i j = keyLess (nth C i) (nth S i) (nth N i) (nth C j) (nth S j) (nth N j) from rfl)
  clear hb hQ hl qi qj
  generalize nth C i = ci at *
  generalize nth C j = cj at *
  generalize nth S i = si at *
  generalize nth S j = sj at *
  generalize nth N i = ni at *
  generalize nth N j = nj at *
  rcases (show cj < ci ∨ ci < cj ∨ ci = cj by omega) with h | h | rfl
  · have v : keyLess ci si ni cj sj nj = true := by simp [keyLess, h]
    have V := Lib.hid (HL.out.trans v)
    clear v HL
    go_enter Try.func8, Try.ntmps8
    go_wp2
    go_region
    all_goals go_wp2
    all_goals go_ret
    all_goals exact ⟨ret_bool V.out.symm, (((Below.refl _ w).alloc (Nat.le_refl _) _).alloc (by simp) _).drew⟩
  · have v : keyLess ci si ni cj sj nj = false := by simp [keyLess, h]; omega
    have V := Lib.hid (HL.out.trans v)
    clear v HL
    go_enter Try.func8, Try.ntmps8
    go_wp2
    go_region
    all_goals go_wp2
    all_goals go_ret
    all_goals exact ⟨ret_bool V.out.symm, (((Below.refl _ w).alloc (Nat.le_refl _) _).alloc (by simp) _).drew⟩
  · have nc : ¬ ci < ci := by omega
    rcases (show si < sj ∨ sj < si ∨ si = sj by omega) with h | h | rfl
    · have v : keyLess ci si ni ci sj nj = true := by simp [keyLess, h]
      have V := Lib.hid (HL.out.trans v)
      clear v HL
      go_enter Try.func8, Try.ntmps8
      go_wp2
      go_region
      all_goals go_wp2
      all_goals go_ret
      all_goals exact ⟨ret_bool V.out.symm, (((Below.refl _ w).alloc (Nat.le_refl _) _).alloc (by simp) _).drew⟩
    · have v : keyLess ci si ni ci sj nj = false := by simp [keyLess, h]; omega
      have V := Lib.hid (HL.out.trans v)
      clear v HL
      go_enter Try.func8, Try.ntmps8
      go_wp2
      go_region
      all_goals go_wp2
      all_goals go_ret
      all_goals exact ⟨ret_bool V.out.symm, (((Below.refl _ w).alloc (Nat.le_refl _) _).alloc (by simp) _).drew⟩
    · have ns : ¬ si < si := by omega
      have v : keyLess ci si ni ci si nj = decide (ni < nj) := by simp [keyLess]
      have V := Lib.hid (HL.out.trans v)
      clear v HL
      go_enter Try.func8, Try.ntmps8
      go_wp2
      go_region
      all_goals go_wp2
      all_goals go_ret
      all_goals exact ⟨ret_bool V.out.symm, (((Below.refl _ w).alloc (Nat.le_refl _) _).alloc (by simp) _).drew⟩

end Go.Proofs.Ytbicjmaogbaldab.fnStableSymbolCountLessIsStrictTotalOrder
