/-
  The plain side of the chunk builder: tokens (line breaks and segments of four deltas), their text, what a reader of the text meets. No program in sight.
-/
import Derived.Test.YtoegmcakolidbaaDoorVlq
namespace Go.Proofs.YtoegmcakolidbaaDoor
open Go.RowKit
set_option linter.unusedVariables false
def vlq (z : Int) : Nat := if z < 0 then 2 * (-z).toNat + 1 else 2 * z.toNat
/-- the digits of z as bytes -/
def enc (z : Int) : List Int := (dgs 7 (vlq z)).map fun d => ((b64at d : Nat) : Int)
inductive Tk where
  | nl : Tk
  | seg (a b c d : Int) : Tk
def Tk.isSeg : Tk → Bool
  | .nl => false
  | .seg _ _ _ _ => true
def encs (a b c d : Int) : List Int := enc a ++ (enc b ++ (enc c ++ enc d))
/-- the text of tokens; p: a segment stands right ahead -/
def txt : Bool → List Tk → List Int
  | _, [] => []
  | _, .nl :: t => 59 :: txt false t
  | p, .seg a b c d :: t => (if p then [44] else []) ++ (encs a b c d ++ txt true t)
/-- does a segment stand last -/
def lst : Bool → List Tk → Bool
  | p, [] => p
  | _, x :: t => lst x.isSeg t
theorem txt_app : ∀ (l : List Tk) (p : Bool) (m : List Tk), txt p (l ++ m) = txt p l ++ txt (lst p l) m
  | [], p, m => by simp [txt, lst]
  | .nl :: t, p, m => by simp [txt, lst, txt_app t, Tk.isSeg]
  | .seg a b c d :: t, p, m => by simp [txt, lst, txt_app t, Tk.isSeg]
theorem lst_app : ∀ (l : List Tk) (p : Bool) (m : List Tk), lst p (l ++ m) = lst (lst p l) m
  | [], p, m => by simp [lst]
  | x :: t, p, m => by simp [lst, lst_app t]
/-- a byte of the alphabet -/
def B64 (c : Int) : Prop := 43 ≤ c ∧ c ≤ 122 ∧ c ≠ 44 ∧ c ≠ 59
theorem b64_ok : ∀ d, d < 64 → 43 ≤ b64at d ∧ b64at d ≤ 122 ∧ b64at d ≠ 44 ∧ b64at d ≠ 59 := by decide
theorem enc_ok (z : Int) : ∀ c ∈ enc z, B64 c := by
  intro c hc
  unfold enc at hc
  rw [List.mem_map] at hc
  obtain ⟨d, hd, rfl⟩ := hc
  have := b64_ok d (dgs_lt 7 _ d hd)
  unfold B64; omega
theorem enc_len (z : Int) : 1 ≤ (enc z).length ∧ (enc z).length ≤ 7 := by
  unfold enc; rw [List.length_map]; exact ⟨dgs_pos 6 _, dgs_le 7 _⟩
theorem encs_ok (a b c d : Int) : ∀ x ∈ encs a b c d, B64 x := by
  intro x hx
  unfold encs at hx
  simp only [List.mem_append] at hx
  rcases hx with h | h | h | h
  · exact enc_ok a x h
  · exact enc_ok b x h
  · exact enc_ok c x h
  · exact enc_ok d x h
theorem encs_len (a b c d : Int) : 4 ≤ (encs a b c d).length ∧ (encs a b c d).length ≤ 28 := by
  unfold encs; simp only [List.length_append]
  have := enc_len a; have := enc_len b; have := enc_len c; have := enc_len d
  omega
theorem txt_len : ∀ (l : List Tk) (p : Bool), (txt p l).length ≤ 29 * l.length
  | [], p => by simp [txt]
  | .nl :: t, p => by have := txt_len t false; simp [txt]; omega
  | .seg a b c d :: t, p => by
    have := txt_len t true
    have := encs_len a b c d
    cases p <;> simp [txt] <;> omega
/-- the byte that stands last: 0 for none -/
def lastOf (zs : List Int) : Int := if zs.length = 0 then 0 else nth zs (zs.length - 1)
theorem nth_app_left (xs ys : List Int) (k : Nat) (h : k < xs.length) : nth (xs ++ ys) k = nth xs k := by simp [nth, List.getElem?_append_left h]
theorem nth_app_right (xs ys : List Int) (k : Nat) : nth (xs ++ ys) (xs.length + k) = nth ys k := by
  unfold nth
  rw [List.getD_eq_getElem?_getD, List.getD_eq_getElem?_getD, List.getElem?_append_right (by omega), Nat.add_sub_cancel_left]
theorem lastOf_app (xs ys : List Int) (h : ys ≠ []) : lastOf (xs ++ ys) = lastOf ys := by
  have hl : 0 < ys.length := List.length_pos_iff.2 h
  unfold lastOf
  rw [if_neg (by rw [List.length_append]; omega), if_neg (by omega), List.length_append, show xs.length + ys.length - 1 = xs.length + (ys.length - 1) by omega, nth_app_right]
theorem lastOf_b64 (ys : List Int) (h : ys ≠ []) (hb : ∀ x ∈ ys, B64 x) : B64 (lastOf ys) := by
  have hl : 0 < ys.length := List.length_pos_iff.2 h
  unfold lastOf
  rw [if_neg (by omega)]
  exact hb _ (nth_mem _ _ (by omega))
/-- whether a comma goes ahead of the next segment hangs on the last byte -/
theorem comma_of (l : List Tk) : (lst false l = true ∧ B64 (lastOf (txt false l))) ∨ (lst false l = false ∧ (lastOf (txt false l) = 0 ∨ lastOf (txt false l) = 59)) := by
  rcases List.eq_nil_or_concat l with rfl | ⟨l', x, rfl⟩
  · right; exact ⟨rfl, .inl rfl⟩
  · rw [List.concat_eq_append, lst_app, txt_app]
    cases x with
    | nl =>
      right
      refine ⟨rfl, .inr ?_⟩
      rw [lastOf_app _ _ (by simp [txt])]; rfl
    | seg a b c d =>
      left
      refine ⟨rfl, ?_⟩
      have he := encs_len a b c d
      have hne : encs a b c d ≠ [] := by intro e; rw [e] at he; simp at he
      rw [show txt (lst false l') [Tk.seg a b c d] = (if lst false l' then [44] else []) ++ (encs a b c d ++ []) from rfl, List.append_nil, lastOf_app _ _ (by simp [hne]), lastOf_app _ _ hne]
      exact lastOf_b64 _ hne (encs_ok a b c d)
/-- what a reader sums up -/
def colOf : Int → List Tk → Int
  | s, [] => s
  | _, .nl :: t => colOf 0 t
  | s, .seg a _ _ _ :: t => colOf (s + a) t
def srcOf : List Tk → Int
  | [] => 0
  | .nl :: t => srcOf t
  | .seg _ b _ _ :: t => b + srcOf t
def nls : List Tk → Nat
  | [] => 0
  | .nl :: t => nls t + 1
  | .seg _ _ _ _ :: t => nls t
def sgs : List Tk → Nat
  | [] => 0
  | .nl :: t => sgs t
  | .seg _ _ _ _ :: t => sgs t + 1
def Bnd (z : Int) : Prop := -1073741823 ≤ z ∧ z ≤ 1073741823
/-- columns never negative, source = line = - column in each segment -/
def Okk : Int → List Tk → Prop
  | _, [] => True
  | _, .nl :: t => Okk 0 t
  | s, .seg a b c d :: t => 0 ≤ s + a ∧ c = b ∧ d = -b ∧ Bnd a ∧ Bnd b ∧ Okk (s + a) t
theorem colOf_app : ∀ (l : List Tk) (s : Int) (m : List Tk), colOf s (l ++ m) = colOf (colOf s l) m
  | [], s, m => rfl
  | .nl :: t, s, m => by simp [colOf, colOf_app t]
  | .seg a b c d :: t, s, m => by simp [colOf, colOf_app t]
theorem srcOf_app : ∀ (l m : List Tk), srcOf (l ++ m) = srcOf l + srcOf m
  | [], m => by simp [srcOf]
  | .nl :: t, m => by simp [srcOf, srcOf_app t]
  | .seg a b c d :: t, m => by simp [srcOf, srcOf_app t]; omega
theorem nls_app : ∀ (l m : List Tk), nls (l ++ m) = nls l + nls m
  | [], m => by simp [nls]
  | .nl :: t, m => by simp [nls, nls_app t]; omega
  | .seg a b c d :: t, m => by simp [nls, nls_app t]
theorem sgs_app : ∀ (l m : List Tk), sgs (l ++ m) = sgs l + sgs m
  | [], m => by simp [sgs]
  | .nl :: t, m => by simp [sgs, sgs_app t]
  | .seg a b c d :: t, m => by simp [sgs, sgs_app t]; omega
theorem okk_app : ∀ (l : List Tk) (s : Int) (m : List Tk), Okk s (l ++ m) ↔ Okk s l ∧ Okk (colOf s l) m
  | [], s, m => by simp [Okk, colOf]
  | .nl :: t, s, m => by simp [Okk, colOf, okk_app t]
  | .seg a b c d :: t, s, m => by simp [Okk, colOf, okk_app t]; constructor <;> (intro h; simp_all)
theorem sgs_len : ∀ l : List Tk, sgs l ≤ l.length ∧ nls l ≤ l.length
  | [] => by simp [sgs, nls]
  | .nl :: t => by have := sgs_len t; simp [sgs, nls]; omega
  | .seg a b c d :: t => by have := sgs_len t; simp [sgs, nls]; omega
end Go.Proofs.YtoegmcakolidbaaDoor
