/-
  How a reader goes through the text of tokens. No program in sight.
-/
import Derived.Test.YtlllfljdagjknaaDoorCl
namespace Go.Proofs.YtlllfljdagjknaaDoor
open Go.RowKit
set_option linter.unusedVariables false
/-- the comma ahead of the next token -/
def startOf : Bool → List Tk → Nat
  | true, .seg _ _ _ _ :: _ => 1
  | _, _ => 0
theorem startOf_nil (p : Bool) : startOf p [] = 0 := by cases p <;> rfl
theorem startOf_nl (p : Bool) (t : List Tk) : startOf p (.nl :: t) = 0 := by cases p <;> rfl
theorem txt_head (p : Bool) (a b c d : Int) (t : List Tk) : txt p (.seg a b c d :: t) = (if p then [44] else []) ++ (encs a b c d ++ txt true t) ∧ ((if p then [44] else []) : List Int).length = startOf p (.seg a b c d :: t) := by cases p <;> exact ⟨rfl, rfl⟩
theorem nth_mid (A B C : List Int) (j : Nat) (h : j < B.length) : nth (A ++ (B ++ C)) (A.length + j) = nth B j := by rw [nth_app_right, nth_app_left _ _ _ h]
theorem at_nl (l1 t : List Tk) : (txt false l1).length < (txt false (l1 ++ .nl :: t)).length ∧ nth (txt false (l1 ++ .nl :: t)) (txt false l1).length = 59 ∧ (txt false l1).length + 1 = (txt false (l1 ++ [.nl])).length + startOf (lst false (l1 ++ [.nl])) t := by
  rw [txt_app, txt_app]
  have e : txt (lst false l1) (.nl :: t) = 59 :: txt false t := rfl
  have e2 : txt (lst false l1) [.nl] = [59] := rfl
  rw [e, e2]
  refine ⟨by simp, ?_, ?_⟩
  · have := nth_mid (txt false l1) [59] (txt false t) 0 (by simp)
    rw [show nth [59] 0 = 59 from rfl] at this
    simpa using this
  · rw [lst_app]
    show _ = _ + startOf false t
    cases t <;> simp [startOf]
theorem at_seg (l1 t : List Tk) (a b c d : Int) (P : Nat) (hP : (txt false l1).length + startOf (lst false l1) (.seg a b c d :: t) = P) :
    P + (encs a b c d).length ≤ (txt false (l1 ++ .seg a b c d :: t)).length ∧ (∀ j, j < (encs a b c d).length → nth (txt false (l1 ++ .seg a b c d :: t)) (P + j) = nth (encs a b c d) j) ∧ P + (encs a b c d).length = (txt false (l1 ++ [.seg a b c d])).length ∧
    ((t = [] ∧ P + (encs a b c d).length = (txt false (l1 ++ .seg a b c d :: t)).length) ∨ ((∃ t', t = .nl :: t') ∧ P + (encs a b c d).length < (txt false (l1 ++ .seg a b c d :: t)).length ∧ nth (txt false (l1 ++ .seg a b c d :: t)) (P + (encs a b c d).length) = 59)
      ∨ ((∃ a' b' c' d' t', t = .seg a' b' c' d' :: t') ∧ P + (encs a b c d).length + 1 < (txt false (l1 ++ .seg a b c d :: t)).length ∧ nth (txt false (l1 ++ .seg a b c d :: t)) (P + (encs a b c d).length) = 44 ∧ B64 (nth (txt false (l1 ++ .seg a b c d :: t)) (P + (encs a b c d).length + 1)))) := by
  obtain ⟨h1, h2⟩ := txt_head (lst false l1) a b c d t
  obtain ⟨h3, h4⟩ := txt_head (lst false l1) a b c d []
  have hX : txt false (l1 ++ .seg a b c d :: t) = (txt false l1 ++ (if lst false l1 then [44] else [])) ++ (encs a b c d ++ txt true t) := by rw [txt_app, h1, List.append_assoc]
  have hA : (txt false l1 ++ (if lst false l1 then [44] else [])).length = P := by rw [List.length_append, h2]; exact hP
  have hY : (txt false (l1 ++ [.seg a b c d])).length = P + (encs a b c d).length := by rw [txt_app, h3, ← List.append_assoc, List.length_append, hA]; simp [txt]
  rw [hX]
  generalize txt false l1 ++ (if lst false l1 then [44] else []) = A at hA
  subst hA
  refine ⟨by simp only [List.length_append]; omega, fun j hj => nth_mid _ _ _ _ hj, hY.symm, ?_⟩
  rcases t with _ | ⟨x, t⟩
  · left; exact ⟨rfl, by simp [txt]⟩
  · have hE : ∀ C : List Int, nth (A ++ (encs a b c d ++ C)) (A.length + (encs a b c d).length) = nth C 0 := by
      intro C
      have := nth_app_right (encs a b c d) C 0
      rw [nth_app_right A _ (encs a b c d).length]
      rwa [Nat.add_zero] at this
    have hE1 : ∀ C : List Int, nth (A ++ (encs a b c d ++ C)) (A.length + (encs a b c d).length + 1) = nth C 1 := by
      intro C
      rw [Nat.add_assoc, nth_app_right A, nth_app_right (encs a b c d) C 1]
    cases x with
    | nl =>
      right; left
      refine ⟨⟨t, rfl⟩, by simp only [List.length_append, txt, List.length_cons]; omega, ?_⟩
      rw [hE]; rfl
    | seg a' b' c' d' =>
      right; right
      have hl := encs_len a' b' c' d'
      have hn1 : nth (txt true (.seg a' b' c' d' :: t)) 1 = nth (encs a' b' c' d') 0 := by
        exact nth_mid [44] (encs a' b' c' d') (txt true t) 0 (by omega)
      refine ⟨⟨a', b', c', d', t, rfl⟩, by simp only [List.length_append, txt, if_true, List.length_cons, List.length_nil]; omega, ?_, ?_⟩
      · rw [hE]; rfl
      · rw [hE1, hn1]
        exact encs_ok a' b' c' d' _ (nth_mem _ _ (by omega))
theorem start_seg (l1 t : List Tk) (a b c d : Int) : startOf (lst false (l1 ++ [.seg a b c d])) t = (match t with | .seg _ _ _ _ :: _ => 1 | _ => 0) := by
  rw [lst_app]
  show startOf true t = _
  rcases t with _ | ⟨x, t⟩
  · rfl
  · cases x <;> rfl
theorem srcOf_bd : ∀ (l : List Tk) (s : Int), Okk s l → -(1073741823 * (l.length : Int)) ≤ srcOf l ∧ srcOf l ≤ 1073741823 * (l.length : Int)
  | [], s, _ => by simp [srcOf]
  | .nl :: t, s, h => by have := srcOf_bd t 0 h; simp only [srcOf, List.length_cons]; push_cast; omega
  | .seg a b c d :: t, s, h => by obtain ⟨h1, h2, h3, h4, ⟨h5, h6⟩, h7⟩ := h; have := srcOf_bd t _ h7; simp only [srcOf, List.length_cons]; push_cast; omega
theorem colOf_bd : ∀ (l : List Tk) (s B : Int), Okk s l → 0 ≤ B → -B ≤ s → s ≤ B → -(B + 1073741823 * (l.length : Int)) ≤ colOf s l ∧ colOf s l ≤ B + 1073741823 * (l.length : Int)
  | [], s, B, _, h0, h1, h2 => by simp [colOf]; omega
  | .nl :: t, s, B, h, h0, h1, h2 => by have := colOf_bd t 0 B h h0 (by omega) (by omega); simp only [colOf, List.length_cons]; push_cast; omega
  | .seg a b c d :: t, s, B, h, h0, h1, h2 => by
    obtain ⟨h1', h2', h3, ⟨h4, h4'⟩, h5, h7⟩ := h
    have := colOf_bd t (s + a) (B + 1073741823) h7 (by omega) (by omega) (by omega)
    simp only [colOf, List.length_cons]; push_cast; omega
theorem encs_flat (a b c d : Int) : encs a b c d = [a, b, c, d].flatMap enc := by simp [encs]
theorem at_end (l1 : List Tk) : (txt false l1).length + startOf (lst false l1) [] = (txt false (l1 ++ [])).length := by rw [startOf_nil, List.append_nil]; rfl
end Go.Proofs.YtlllfljdagjknaaDoor
