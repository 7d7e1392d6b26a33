/-
  The plain side of the law's own chunk writer: the tokens of the numbers d and the kinds ks. No program in sight.
-/
import Derived.Test.YtoegmcakolidbaaDoorCk
import Derived.Laws.BitsAllLaws
namespace Go.Proofs.YtoegmcakolidbaaDoor
open Go.RowKit
set_option linter.unusedVariables false
def kd (ks : List Int) (i : Nat) : Int := if i < ks.length then nth ks i else 0
def srcB (ks : List Int) (i : Nat) : Bool := (i == 0) || (bits .and .u8 (kd ks i) 4 == 0)
def nameB (ks : List Int) (i : Nat) : Bool := srcB ks i && !(bits .and .u8 (kd ks i) 2 == 0)
def brB (ks : List Int) (i : Nat) : Bool := !(bits .and .u8 (kd ks i) 1 == 0)
def nums (ds ks : List Int) (i : Nat) : List Int :=
  if srcB ks i then (if nameB ks i then [nth ds (5 * i), nth ds (5 * i + 1), nth ds (5 * i + 2), nth ds (5 * i + 3), nth ds (5 * i + 4)] else [nth ds (5 * i), nth ds (5 * i + 1), nth ds (5 * i + 2), nth ds (5 * i + 3)]) else [nth ds (5 * i)]
def toks (ds ks : List Int) : Nat → List Tg
  | 0 => []
  | i + 1 => toks ds ks i ++ ((if brB ks i then [.nl] else []) ++ [.seg (nums ds ks i)])
theorem toks_last (ds ks : List Int) (i : Nat) : lsg false (toks ds ks i) = decide (0 < i) := by
  cases i with
  | zero => rfl
  | succ i => rw [toks, ← List.append_assoc, lsg_app]; simp [lsg, Tg.isSeg]
theorem toks_len (ds ks : List Int) : ∀ i, (toks ds ks i).length ≤ 2 * i
  | 0 => by simp [toks]
  | i + 1 => by have := toks_len ds ks i; rw [toks]; split <;> simp <;> omega
theorem nums_len (ds ks : List Int) (i : Nat) : (nums ds ks i).length = 1 ∨ (nums ds ks i).length = 4 ∨ (nums ds ks i).length = 5 := by
  unfold nums; repeat' split
  all_goals simp
theorem toks_ws (ds ks : List Int) : ∀ i, WS (toks ds ks i)
  | 0 => fun zs h => by simp [toks] at h
  | i + 1 => fun zs h => by
    rw [toks] at h
    simp only [List.mem_append] at h
    rcases h with h | h | h
    · exact toks_ws ds ks i zs h
    · split at h <;> simp at h
    · simp at h; subst h; exact nums_len ds ks i
def AllB (P : Int → Prop) (l : List Tg) : Prop := ∀ zs, Tg.seg zs ∈ l → ∀ z ∈ zs, P z
theorem nums_all {P : Int → Prop} (ds ks : List Int) (i : Nat) (h : ∀ k, P (nth ds k)) : ∀ z ∈ nums ds ks i, P z := by
  intro z hz
  unfold nums at hz
  split at hz
  · split at hz
    · simp at hz; rcases hz with h' | h' | h' | h' | h' <;> (rw [h']; exact h _)
    · simp at hz; rcases hz with h' | h' | h' | h' <;> (rw [h']; exact h _)
  · simp at hz; rw [hz]; exact h _
theorem toks_all {P : Int → Prop} (ds ks : List Int) (h : ∀ k, P (nth ds k)) : ∀ i, AllB P (toks ds ks i)
  | 0 => fun zs hz => by simp [toks] at hz
  | i + 1 => fun zs hz => by
    rw [toks] at hz
    simp only [List.mem_append] at hz
    rcases hz with hz | hz | hz
    · exact toks_all ds ks h i zs hz
    · split at hz <;> simp at hz
    · simp at hz; subst hz; exact nums_all ds ks i h
theorem toks_head (ds ks : List Int) : ∀ i, ∃ s r rest, s ≤ 1 ∧ (r = [] ∨ ∃ e, r = [e]) ∧ toks ds ks (i + 1) = brks s ++ .seg (nth ds 0 :: nth ds 1 :: nth ds 2 :: nth ds 3 :: r) :: rest
  | 0 => by
    have h0 : srcB ks 0 = true := rfl
    rcases hb : brB ks 0 with _ | _ <;> rcases hn : nameB ks 0 with _ | _
    · exact ⟨0, [], [], by omega, .inl rfl, by simp [toks, nums, h0, hb, hn, brks]⟩
    · exact ⟨0, [nth ds 4], [], by omega, .inr ⟨_, rfl⟩, by simp [toks, nums, h0, hb, hn, brks]⟩
    · exact ⟨1, [], [], by omega, .inl rfl, by simp [toks, nums, h0, hb, hn, brks, List.replicate]⟩
    · exact ⟨1, [nth ds 4], [], by omega, .inr ⟨_, rfl⟩, by simp [toks, nums, h0, hb, hn, brks, List.replicate]⟩
  | i + 1 => by
    obtain ⟨s, r, rest, h1, h2, h3⟩ := toks_head ds ks i
    refine ⟨s, r, rest ++ ((if brB ks (i + 1) then [.nl] else []) ++ [.seg (nums ds ks (i + 1))]), h1, h2, ?_⟩
    rw [toks, h3]; simp
theorem fn_seg (l : List Tg) (fn : Int) (zs : List Int) (h : FN l fn) (hz : zs.length ≠ 5) : FN (l ++ [.seg zs]) fn := by
  rcases h with ⟨h1, h2⟩ | ⟨l1, a, b, c, d, e, l2, h1, h2, h3⟩
  · refine .inl ⟨h1, fun ys hy => ?_⟩
    simp at hy
    rcases hy with hy | hy
    · exact h2 ys hy
    · rw [hy]; exact hz
  · exact .inr ⟨l1, a, b, c, d, e, l2 ++ [.seg zs], by rw [h1]; simp, h2, h3⟩
theorem fn_nl (l : List Tg) (fn : Int) (h : FN l fn) : FN (l ++ [.nl]) fn := by
  rcases h with ⟨h1, h2⟩ | ⟨l1, a, b, c, d, e, l2, h1, h2, h3⟩
  · refine .inl ⟨h1, fun ys hy => ?_⟩
    simp at hy
    exact h2 ys hy
  · exact .inr ⟨l1, a, b, c, d, e, l2 ++ [.nl], by rw [h1]; simp, h2, h3⟩
theorem fn_old (l : List Tg) (fn : Int) (zs : List Int) (h : FN l fn) (h0 : ¬ fn = -1) : FN (l ++ [.seg zs]) fn := by
  rcases h with ⟨h1, h2⟩ | ⟨l1, a, b, c, d, e, l2, h1, h2, h3⟩
  · exact absurd h1 h0
  · exact .inr ⟨l1, a, b, c, d, e, l2 ++ [.seg zs], by rw [h1]; simp, h2, h3⟩
theorem fn_new (l : List Tg) (a b c d e : Int) (h : FN l (-1)) : FN (l ++ [.seg [a, b, c, d, e]]) ((txg false (l ++ [.seg [a, b, c, d]])).length : Nat) := by
  rcases h with ⟨h1, h2⟩ | ⟨l1, a, b, c, d, e, l2, h1, h2, h3⟩
  · exact .inr ⟨l, a, b, c, d, e, [], rfl, h2, rfl⟩
  · omega
theorem fn_form (l : List Tg) (fn : Int) (h : FN l fn) : fn = -1 ∨ ∃ m : Nat, fn = m := by
  rcases h with ⟨h1, h2⟩ | ⟨l1, a, b, c, d, e, l2, h1, h2, h3⟩
  · exact .inl h1
  · exact .inr ⟨_, h3⟩
/-- the text up to a segment's numbers -/
def pfx (l : List Tg) : List Int := txg false l ++ (if lsg false l then [44] else [])
theorem txg_pfx (l : List Tg) (zs : List Int) : txg false (l ++ [.seg zs]) = pfx l ++ encL zs := by
  rw [txg_app, pfx]; simp [txg]
theorem set_app (X Y : List Int) (j : Nat) (v : Int) : (X ++ Y).set (X.length + j) v = X ++ Y.set j v := by
  rw [List.set_append_right _ _ (by omega), Nat.add_sub_cancel_left]
theorem rec_put (X R : List Int) (a b c d e f g : Int) (m : Nat) (hm : X.length = m) : (((((((X ++ List.replicate 7 0 ++ R).set m a).set (m + 1) b).set (m + 2) c).set (m + 3) d).set (m + 4) e).set (m + 5) f).set (m + 6) g = X ++ [a, b, c, d, e, f, g] ++ R := by
  subst hm
  rw [List.append_assoc]
  have h0 := set_app X (List.replicate 7 0 ++ R) 0 a
  rw [Nat.add_zero] at h0
  rw [h0, set_app, set_app, set_app, set_app, set_app, set_app, List.append_assoc]
  rfl
/-- the records' cells while i of n are written -/
def segC (l : List Tg) (n i : Nat) : List Int := (recs z0 l).flatten ++ List.replicate (7 * (n - i)) 0
theorem recs_flat (l : List Tg) : ∀ s, (recs s l).flatten.length = 7 * nsg l := by
  induction l with
  | nil => intro s; rfl
  | cons x t ih =>
    intro s
    cases x with
    | nl => exact ih _
    | seg zs => show (((s.seg zs).cells zs.length :: recs (s.seg zs) t).flatten).length = 7 * (nsg t + 1); rw [List.flatten_cons, List.length_append, ih]; show 7 + _ = _; omega
theorem toks_nsg (ds ks : List Int) : ∀ i, nsg (toks ds ks i) = i
  | 0 => rfl
  | i + 1 => by rw [toks, nsg_app, nsg_app, toks_nsg ds ks i]; split <;> simp [nsg]
theorem segC_step (l pre : List Tg) (zs : List Int) (n i : Nat) (hi : i < n) (hl : nsg (l ++ pre) = i) (hp : recs (absOf z0 l) pre = []) :
    ∀ S, S = (absOf z0 (l ++ pre)).seg zs → (((((((segC l n i).set (7 * i) S.ln).set (7 * i + 1) S.col).set (7 * i + 2) zs.length).set (7 * i + 3) S.src).set (7 * i + 4) S.ol).set (7 * i + 5) S.oc).set (7 * i + 6) S.on = segC (l ++ pre ++ [.seg zs]) n (i + 1) := by
  intro S hS
  have e1 : recs z0 (l ++ pre) = recs z0 l := by rw [recs_app, hp, List.append_nil]
  have e : 7 * (n - i) = 7 + 7 * (n - (i + 1)) := by omega
  unfold segC
  rw [e, ← List.replicate_append_replicate, ← List.append_assoc, rec_put _ _ _ _ _ _ _ _ _ _ (by rw [← e1, recs_flat, hl]), recs_app (l ++ pre) z0, e1, List.flatten_append]
  subst hS
  rfl
end Go.Proofs.YtoegmcakolidbaaDoor
