/-
  The plain side of the chunk builder: tokens (line breaks and segments of deltas), their text, what a reader of the text meets. No program in sight. No statement of the seat is proved here.
-/
import Derived.Test.YtfbeeekakfllpaaDoorVlq
namespace Go.Proofs.YtfbeeekakfllpaaDoor
open Go.RowKit
set_option linter.unusedVariables false
def vlq (z : Int) : Nat := if z < 0 then 2 * (-z).toNat + 1 else 2 * z.toNat
/-- the digits of z as bytes -/
def enc (z : Int) : List Int := (dgs 7 (vlq z)).map fun d => ((b64at d : Nat) : Int)
inductive Tk where
  | nl : Tk
  | seg (ds : List Int) : Tk
def Tk.isSeg : Tk → Bool
  | .nl => false
  | .seg _ => true
def encs (ds : List Int) : List Int := ds.flatMap enc
theorem encs_app (a b : List Int) : encs (a ++ b) = encs a ++ encs b := by simp [encs]
theorem encs_cons (z : Int) (b : List Int) : encs (z :: b) = enc z ++ encs b := by simp [encs]
theorem encs_nil : encs [] = [] := rfl
/-- the text of tokens; p: a segment stands right ahead -/
def txt : Bool → List Tk → List Int
  | _, [] => []
  | _, .nl :: t => 59 :: txt false t
  | p, .seg ds :: t => (if p then [44] else []) ++ (encs ds ++ txt true t)
/-- does a segment stand last -/
def lst : Bool → List Tk → Bool
  | p, [] => p
  | _, x :: t => lst x.isSeg t
theorem txt_app : ∀ (l : List Tk) (p : Bool) (m : List Tk), txt p (l ++ m) = txt p l ++ txt (lst p l) m
  | [], p, m => by simp [txt, lst]
  | .nl :: t, p, m => by simp [txt, lst, txt_app t, Tk.isSeg]
  | .seg ds :: t, p, m => by simp [txt, lst, txt_app t, Tk.isSeg]
theorem lst_app : ∀ (l : List Tk) (p : Bool) (m : List Tk), lst p (l ++ m) = lst (lst p l) m
  | [], p, m => by simp [lst]
  | x :: t, p, m => by simp [lst, lst_app t]
/-- a byte of the alphabet -/
def B64 (c : Int) : Prop := 43 ≤ c ∧ c ≤ 122 ∧ c ≠ 44 ∧ c ≠ 59
theorem b64_ok : ∀ d, d < 64 → 43 ≤ b64at d ∧ b64at d ≤ 122 ∧ b64at d ≠ 44 ∧ b64at d ≠ 59 := by decide
theorem enc_ok (z : Int) : ∀ c ∈ enc z, B64 c := by
  intro c hc
  unfold enc at hc
  rw [List.mem_map] at hc
  obtain ⟨d, hd, rfl⟩ := hc
  have := b64_ok d (dgs_lt 7 _ d hd)
  unfold B64; omega
theorem enc_len (z : Int) : 1 ≤ (enc z).length ∧ (enc z).length ≤ 7 := by
  unfold enc; rw [List.length_map]; exact ⟨dgs_pos 6 _, dgs_le 7 _⟩
theorem encs_ok (ds : List Int) : ∀ x ∈ encs ds, B64 x := by
  intro x hx
  unfold encs at hx
  rw [List.mem_flatMap] at hx
  obtain ⟨z, _, h⟩ := hx
  exact enc_ok z x h
theorem encs_len : ∀ ds : List Int, ds.length ≤ (encs ds).length ∧ (encs ds).length ≤ 7 * ds.length
  | [] => by simp [encs]
  | z :: t => by have := encs_len t; have := enc_len z; rw [encs_cons]; simp only [List.length_append, List.length_cons]; omega
/-- every segment has four or five deltas -/
def Wk : List Tk → Prop
  | [] => True
  | .nl :: t => Wk t
  | .seg ds :: t => (ds.length = 4 ∨ ds.length = 5) ∧ Wk t
theorem wk_app : ∀ (l m : List Tk), Wk (l ++ m) ↔ Wk l ∧ Wk m
  | [], m => by simp [Wk]
  | .nl :: t, m => by simp [Wk, wk_app t]
  | .seg ds :: t, m => by simp [Wk, wk_app t, and_assoc]
theorem txt_len : ∀ (l : List Tk) (p : Bool), Wk l → (txt p l).length ≤ 36 * l.length
  | [], p, _ => by simp [txt]
  | .nl :: t, p, h => by have := txt_len t false h; simp [txt]; omega
  | .seg ds :: t, p, h => by
    have := txt_len t true h.2
    have := encs_len ds
    have := h.1
    cases p <;> simp [txt] <;> omega
/-- the byte that stands last: 0 for none -/
def lastOf (zs : List Int) : Int := if zs.length = 0 then 0 else nth zs (zs.length - 1)
theorem nth_app_left (xs ys : List Int) (k : Nat) (h : k < xs.length) : nth (xs ++ ys) k = nth xs k := by simp [nth, List.getElem?_append_left h]
theorem nth_app_right (xs ys : List Int) (k : Nat) : nth (xs ++ ys) (xs.length + k) = nth ys k := by
  unfold nth
  rw [List.getD_eq_getElem?_getD, List.getD_eq_getElem?_getD, List.getElem?_append_right (by omega), Nat.add_sub_cancel_left]
theorem lastOf_app (xs ys : List Int) (h : ys ≠ []) : lastOf (xs ++ ys) = lastOf ys := by
  have hl : 0 < ys.length := List.length_pos_iff.2 h
  unfold lastOf
  rw [if_neg (by rw [List.length_append]; omega), if_neg (by omega), List.length_append, show xs.length + ys.length - 1 = xs.length + (ys.length - 1) by omega, nth_app_right]
theorem lastOf_b64 (ys : List Int) (h : ys ≠ []) (hb : ∀ x ∈ ys, B64 x) : B64 (lastOf ys) := by
  have hl : 0 < ys.length := List.length_pos_iff.2 h
  unfold lastOf
  rw [if_neg (by omega)]
  exact hb _ (nth_mem _ _ (by omega))
/-- whether a comma goes ahead of the next segment hangs on the last byte -/
theorem comma_of (l : List Tk) (hw : Wk l) : (lst false l = true ∧ B64 (lastOf (txt false l))) ∨ (lst false l = false ∧ (lastOf (txt false l) = 0 ∨ lastOf (txt false l) = 59)) := by
  rcases List.eq_nil_or_concat l with rfl | ⟨l', x, rfl⟩
  · right; exact ⟨rfl, .inl rfl⟩
  · rw [List.concat_eq_append] at hw ⊢
    rw [lst_app, txt_app]
    cases x with
    | nl =>
      right
      refine ⟨rfl, .inr ?_⟩
      rw [lastOf_app _ _ (by simp [txt])]; rfl
    | seg ds =>
      left
      refine ⟨rfl, ?_⟩
      have he := encs_len ds
      have hd := ((wk_app l' _).1 hw).2.1
      have hne : encs ds ≠ [] := by intro e; have h0 := he.1; rw [e, List.length_nil] at h0; omega
      rw [show txt (lst false l') [Tk.seg ds] = (if lst false l' then [44] else []) ++ (encs ds ++ []) from rfl, List.append_nil, lastOf_app _ _ (by simp [hne]), lastOf_app _ _ hne]
      exact lastOf_b64 _ hne (encs_ok ds)
def Bnd (z : Int) : Prop := -1073741823 ≤ z ∧ z ≤ 1073741823
def nls : List Tk → Nat
  | [] => 0
  | .nl :: t => nls t + 1
  | .seg _ :: t => nls t
def sgs : List Tk → Nat
  | [] => 0
  | .nl :: t => sgs t
  | .seg _ :: t => sgs t + 1
theorem nls_app : ∀ (l m : List Tk), nls (l ++ m) = nls l + nls m
  | [], m => by simp [nls]
  | .nl :: t, m => by simp [nls, nls_app t]; omega
  | .seg ds :: t, m => by simp [nls, nls_app t]
theorem sgs_app : ∀ (l m : List Tk), sgs (l ++ m) = sgs l + sgs m
  | [], m => by simp [sgs]
  | .nl :: t, m => by simp [sgs, sgs_app t]
  | .seg ds :: t, m => by simp [sgs, sgs_app t]; omega
/-- the comma ahead of a segment, by the text's last byte -/
def cm (lb : Int) : List Int := if lb = 0 ∨ lb = 59 then [] else [44]
theorem cm_txt (l : List Tk) (hw : Wk l) : (lst false l = true → cm (lastOf (txt false l)) = [44]) ∧ (lst false l = false → cm (lastOf (txt false l)) = []) := by
  rcases comma_of l hw with ⟨h, hb⟩ | ⟨h, hb⟩
  · refine ⟨fun _ => ?_, fun c => (by rw [h] at c; cases c)⟩
    obtain ⟨b1, b2, b3, b4⟩ := hb
    rw [cm, if_neg (by omega)]
  · exact ⟨fun c => (by rw [h] at c; cases c), fun _ => by rw [cm, if_pos hb]⟩
theorem last_ok (l : List Tk) (hw : Wk l) : lastOf (txt false l) = 0 ∨ lastOf (txt false l) = 59 ∨ B64 (lastOf (txt false l)) := by
  rcases comma_of l hw with ⟨h, hb⟩ | ⟨h, hb | hb⟩
  · exact .inr (.inr hb)
  · exact .inl hb
  · exact .inr (.inl hb)
theorem txt_seg (l : List Tk) (hw : Wk l) (ds : List Int) : txt false (l ++ [.seg ds]) = txt false l ++ (cm (lastOf (txt false l)) ++ encs ds) := by
  rw [txt_app]
  rcases hl : lst false l with _ | _
  · rw [(cm_txt l hw).2 hl]; simp [txt]
  · rw [(cm_txt l hw).1 hl]; simp [txt]
theorem txt_nl (l : List Tk) : txt false (l ++ [.nl]) = txt false l ++ [59] := by rw [txt_app]; simp [txt]
/-- one segment of a line, in absolute terms -/
structure Sg where
  col : Int
  n : Int
  ol : Int
  oc : Int
  nm : Int
/-- what a reader of tokens holds: the closed lines, the line at hand, the sums -/
structure Rdr where
  rows : List (List Sg)
  cur : List Sg
  col : Int
  ol : Int
  oc : Int
  on : Int
def rd0 : Rdr := ⟨[], [], 0, 0, 0, 0⟩
def d0 (ds : List Int) (i : Nat) : Int := ds.getD i 0
def Rdr.tok (r : Rdr) : Tk → Rdr
  | .nl => { r with rows := r.rows ++ [r.cur], cur := [], col := 0 }
  | .seg ds => { r with cur := r.cur ++ [⟨r.col + d0 ds 0, ds.length, r.ol + d0 ds 2, r.oc + d0 ds 3, if ds.length = 5 then r.on + d0 ds 4 else -1⟩], col := r.col + d0 ds 0, ol := r.ol + d0 ds 2, oc := r.oc + d0 ds 3, on := if ds.length = 5 then r.on + d0 ds 4 else r.on }
def rdOf (l : List Tk) : Rdr := l.foldl Rdr.tok rd0
theorem rdOf_snoc (l : List Tk) (x : Tk) : rdOf (l ++ [x]) = (rdOf l).tok x := by simp [rdOf]
end Go.Proofs.YtfbeeekakfllpaaDoor
