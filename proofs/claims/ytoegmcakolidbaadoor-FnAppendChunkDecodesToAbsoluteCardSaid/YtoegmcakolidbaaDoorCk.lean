/-
  The plain side of FnAppendChunk's law: a chunk's tokens, their text, what they stand for; the text that the appended chunk shows. No program in sight.
-/
import Derived.Test.YtoegmcakolidbaaDoorCb
namespace Go.Proofs.YtoegmcakolidbaaDoor
open Go.RowKit
set_option linter.unusedVariables false
/-- a line break; a segment of one, four or five numbers -/
inductive Tg where
  | nl : Tg
  | seg (zs : List Int) : Tg
def Tg.isSeg : Tg → Bool
  | .nl => false
  | .seg _ => true
def encL (zs : List Int) : List Int := zs.flatMap enc
def txg : Bool → List Tg → List Int
  | _, [] => []
  | _, .nl :: t => 59 :: txg false t
  | p, .seg zs :: t => (if p then [44] else []) ++ (encL zs ++ txg true t)
def lsg : Bool → List Tg → Bool
  | p, [] => p
  | _, x :: t => lsg x.isSeg t
theorem txg_app : ∀ (l : List Tg) (p : Bool) (m : List Tg), txg p (l ++ m) = txg p l ++ txg (lsg p l) m
  | [], p, m => by simp [txg, lsg]
  | .nl :: t, p, m => by simp [txg, lsg, txg_app t, Tg.isSeg]
  | .seg zs :: t, p, m => by simp [txg, lsg, txg_app t, Tg.isSeg]
theorem lsg_app : ∀ (l : List Tg) (p : Bool) (m : List Tg), lsg p (l ++ m) = lsg (lsg p l) m
  | [], p, m => by simp [lsg]
  | x :: t, p, m => by simp [lsg, lsg_app t]
theorem encL_app (xs ys : List Int) : encL (xs ++ ys) = encL xs ++ encL ys := by simp [encL]
theorem encL_one (z : Int) : encL [z] = enc z := by simp [encL]
theorem encL_four (a b c d : Int) : encL [a, b, c, d] = encs a b c d := by simp [encL, encs]
/-- what a reader has summed up -/
structure Ab where
  ln : Int
  col : Int
  src : Int
  ol : Int
  oc : Int
  on : Int
def Ab.nl (s : Ab) : Ab := { s with ln := s.ln + 1, col := 0 }
def Ab.seg (s : Ab) (zs : List Int) : Ab := ⟨s.ln, s.col + nth zs 0, s.src + nth zs 1, s.ol + nth zs 2, s.oc + nth zs 3, s.on + nth zs 4⟩
def Ab.cells (s : Ab) (n : Nat) : List Int := [s.ln, s.col, n, s.src, s.ol, s.oc, s.on]
def absOf : Ab → List Tg → Ab
  | s, [] => s
  | s, .nl :: t => absOf s.nl t
  | s, .seg zs :: t => absOf (s.seg zs) t
def recs : Ab → List Tg → List (List Int)
  | _, [] => []
  | s, .nl :: t => recs s.nl t
  | s, .seg zs :: t => (s.seg zs).cells zs.length :: recs (s.seg zs) t
theorem absOf_app : ∀ (l : List Tg) (s : Ab) (m : List Tg), absOf s (l ++ m) = absOf (absOf s l) m
  | [], s, m => rfl
  | .nl :: t, s, m => absOf_app t _ m
  | .seg zs :: t, s, m => absOf_app t _ m
theorem recs_app : ∀ (l : List Tg) (s : Ab) (m : List Tg), recs s (l ++ m) = recs s l ++ recs (absOf s l) m
  | [], s, m => rfl
  | .nl :: t, s, m => recs_app t _ m
  | .seg zs :: t, s, m => by simp [recs, absOf, recs_app t]
def nsg : List Tg → Nat
  | [] => 0
  | .nl :: t => nsg t
  | .seg _ :: t => nsg t + 1
theorem recs_len : ∀ (l : List Tg) (s : Ab), (recs s l).length = nsg l
  | [], s => rfl
  | .nl :: t, s => recs_len t _
  | .seg zs :: t, s => by simp [recs, nsg, recs_len t]
theorem nsg_le : ∀ l : List Tg, nsg l ≤ l.length
  | [] => Nat.le_refl _
  | .nl :: t => by have := nsg_le t; simp [nsg]; omega
  | .seg zs :: t => by have := nsg_le t; simp [nsg]; omega
theorem nsg_app : ∀ l m : List Tg, nsg (l ++ m) = nsg l + nsg m
  | [], m => by simp [nsg]
  | .nl :: t, m => by simp [nsg, nsg_app t]
  | .seg zs :: t, m => by simp [nsg, nsg_app t]; omega
/-- the start state: line, column, source, line, column, name -/
structure Stt where
  gl : Int
  gc : Int
  si : Int
  ol : Int
  oc : Int
  on : Int
/-- the state A behind a segment of n numbers against the chunk's record e -/
def OKr (P : Stt) (A : Ab) (n : Nat) (e : List Int) : Prop :=
  e.length = 7 ∧ nth e 2 = n ∧ A.ln = P.gl + nth e 0 ∧ A.col = nth e 1 + (if nth e 0 = 0 then P.gc else 0) ∧ (4 ≤ n → A.src = P.si + nth e 3 ∧ A.ol = P.ol + nth e 4 ∧ A.oc = P.oc + nth e 5) ∧ (n = 5 → A.on = P.on + nth e 6)
def Match (P : Stt) : Ab → List Tg → List (List Int) → Prop
  | _, [], E => E = []
  | A, .nl :: t, E => Match P A.nl t E
  | _, .seg _ :: _, [] => False
  | A, .seg zs :: t, e :: E => OKr P (A.seg zs) zs.length e ∧ Match P (A.seg zs) t E
/-- the first name's delta is turned -/
def ren (δ : Int) : List Tg → List Tg
  | [] => []
  | .nl :: t => .nl :: ren δ t
  | .seg zs :: t => if zs.length = 5 then .seg (zs.set 4 (nth zs 4 + δ)) :: t else .seg zs :: ren δ t
def NoN (l : List Tg) : Prop := ∀ zs, Tg.seg zs ∈ l → zs.length ≠ 5
def WS (l : List Tg) : Prop := ∀ zs, Tg.seg zs ∈ l → zs.length = 1 ∨ zs.length = 4 ∨ zs.length = 5
theorem ren_non (δ : Int) : ∀ l, NoN l → ren δ l = l
  | [], _ => rfl
  | .nl :: t, h => by rw [ren, ren_non δ t (fun zs hz => h zs (List.mem_cons_of_mem _ hz))]
  | .seg zs :: t, h => by rw [ren, if_neg (h zs List.mem_cons_self), ren_non δ t (fun zs hz => h zs (List.mem_cons_of_mem _ hz))]
theorem ren_app (δ : Int) : ∀ l m, NoN l → ren δ (l ++ m) = l ++ ren δ m
  | [], m, _ => rfl
  | .nl :: t, m, h => by rw [List.cons_append, ren, ren_app δ t m (fun zs hz => h zs (List.mem_cons_of_mem _ hz))]; rfl
  | .seg zs :: t, m, h => by rw [List.cons_append, ren, if_neg (h zs List.mem_cons_self), ren_app δ t m (fun zs hz => h zs (List.mem_cons_of_mem _ hz))]; rfl
/-- the chunk's state s against the reader's A; named: a name has been met; q: the name that the reader began with -/
structure Rel (P : Stt) (q : Int) (named : Bool) (s A : Ab) : Prop where
  l0 : 0 ≤ s.ln
  ln : A.ln = P.gl + s.ln
  col : A.col = s.col + (if s.ln = 0 then P.gc else 0)
  src : A.src = P.si + s.src
  ol : A.ol = P.ol + s.ol
  oc : A.oc = P.oc + s.oc
  on1 : named = true → A.on = P.on + s.on
  on0 : named = false → s.on = 0 ∧ A.on = q
theorem Rel.nl {P : Stt} {q : Int} {n : Bool} {s A : Ab} (h : Rel P q n s A) : Rel P q n s.nl A.nl := by
  obtain ⟨h0, h1, h2, h3, h4, h5, h6, h7⟩ := h
  refine ⟨?_, ?_, ?_, h3, h4, h5, h6, h7⟩
  · show 0 ≤ s.ln + 1; omega
  · show A.ln + 1 = P.gl + (s.ln + 1); omega
  · show (0 : Int) = 0 + (if s.ln + 1 = 0 then P.gc else 0); rw [if_neg (by omega)]; rfl
theorem Rel.okr {P : Stt} {q : Int} {s A : Ab} (n : Nat) (h : Rel P q true s A) : OKr P A n (s.cells n) := by
  obtain ⟨h0, h1, h2, h3, h4, h5, h6, h7⟩ := h
  exact ⟨rfl, rfl, h1, h2, fun _ => ⟨h3, h4, h5⟩, fun _ => h6 rfl⟩
theorem Rel.okr' {P : Stt} {q : Int} {b : Bool} {s A : Ab} (n : Nat) (hn : n ≠ 5) (h : Rel P q b s A) : OKr P A n (s.cells n) := by
  obtain ⟨h0, h1, h2, h3, h4, h5, h6, h7⟩ := h
  exact ⟨rfl, rfl, h1, h2, fun _ => ⟨h3, h4, h5⟩, fun c => absurd c hn⟩
theorem nth_out (zs : List Int) (i : Nat) (h : zs.length ≤ i) : nth zs i = 0 := by simp [nth, h]
theorem Rel.seg {P : Stt} {q : Int} {b : Bool} {s A : Ab} (zs : List Int) (hb : b = true ∨ zs.length ≤ 4) (h : Rel P q b s A) : Rel P q b (s.seg zs) (A.seg zs) := by
  obtain ⟨h0, h1, h2, h3, h4, h5, h6, h7⟩ := h
  refine ⟨h0, h1, ?_, ?_, ?_, ?_, ?_, ?_⟩
  · show A.col + _ = s.col + _ + (if s.ln = 0 then P.gc else 0); omega
  · show A.src + _ = _ + (s.src + _); omega
  · show A.ol + _ = _ + (s.ol + _); omega
  · show A.oc + _ = _ + (s.oc + _); omega
  · intro hb'; show A.on + _ = _ + (s.on + _); have := h6 hb'; omega
  · intro hb'
    have := h7 hb'
    have hl : zs.length ≤ 4 := by rcases hb with rfl | h; · cases hb'
                                  · exact h
    show s.on + nth zs 4 = 0 ∧ A.on + nth zs 4 = q
    rw [nth_out zs 4 hl]; omega
theorem match_same (P : Stt) (q : Int) : ∀ t s A, Rel P q true s A → Match P A t (recs s t)
  | [], s, A, h => rfl
  | .nl :: t, s, A, h => match_same P q t _ _ h.nl
  | .seg zs :: t, s, A, h => by
    have h' := h.seg zs (.inl rfl)
    exact ⟨h'.okr _, match_same P q t _ _ h'⟩
theorem nth_set4 (zs : List Int) (v : Int) (h : zs.length = 5) : nth (zs.set 4 v) 0 = nth zs 0 ∧ nth (zs.set 4 v) 1 = nth zs 1 ∧ nth (zs.set 4 v) 2 = nth zs 2 ∧ nth (zs.set 4 v) 3 = nth zs 3 ∧ nth (zs.set 4 v) 4 = v := by
  match zs, h with
  | [a, b, c, d, e], _ => exact ⟨rfl, rfl, rfl, rfl, rfl⟩
theorem Rel.segN {P : Stt} {q : Int} {s A : Ab} (zs : List Int) (hz : zs.length = 5) (h : Rel P q false s A) : Rel P q true (s.seg zs) (A.seg (zs.set 4 (nth zs 4 + (P.on - q)))) := by
  obtain ⟨h0, h1, h2, h3, h4, h5, h6, h7⟩ := h
  obtain ⟨e0, e1, e2, e3, e4⟩ := nth_set4 zs (nth zs 4 + (P.on - q)) hz
  have := h7 rfl
  refine ⟨h0, h1, ?_, ?_, ?_, ?_, fun _ => ?_, fun c => (by cases c)⟩
  · show A.col + _ = s.col + _ + (if s.ln = 0 then P.gc else 0); omega
  · show A.src + _ = _ + (s.src + _); omega
  · show A.ol + _ = _ + (s.ol + _); omega
  · show A.oc + _ = _ + (s.oc + _); omega
  · show A.on + _ = _ + (s.on + _); omega
theorem match_ren (P : Stt) (q : Int) : ∀ t s A, WS t → Rel P q false s A → Match P A (ren (P.on - q) t) (recs s t)
  | [], s, A, _, h => rfl
  | .nl :: t, s, A, hw, h => match_ren P q t _ _ (fun zs hz => hw zs (List.mem_cons_of_mem _ hz)) h.nl
  | .seg zs :: t, s, A, hw, h => by
    rw [ren]
    rcases hw zs List.mem_cons_self with hz | hz | hz
    · rw [if_neg (by omega)]
      have h' := h.seg zs (.inr (by omega))
      exact ⟨h'.okr' _ (by omega), match_ren P q t _ _ (fun zs hz => hw zs (List.mem_cons_of_mem _ hz)) h'⟩
    · rw [if_neg (by omega)]
      have h' := h.seg zs (.inr (by omega))
      exact ⟨h'.okr' _ (by omega), match_ren P q t _ _ (fun zs hz => hw zs (List.mem_cons_of_mem _ hz)) h'⟩
    · rw [if_pos hz]
      have h' := h.segN zs hz
      refine ⟨?_, match_same P q t _ _ h'⟩
      have := h'.okr zs.length
      rwa [List.length_set]
/-- line breaks ahead -/
def brks (n : Nat) : List Tg := List.replicate n .nl
def Ab.brk (A : Ab) (n : Nat) : Ab := if n = 0 then A else { A with ln := A.ln + n, col := 0 }
theorem match_brks (P : Stt) (t : List Tg) (E : List (List Int)) : ∀ n A, Match P (A.brk n) t E → Match P A (brks n ++ t) E
  | 0, A, h => h
  | n + 1, A, h => by
    show Match P A.nl (brks n ++ t) E
    refine match_brks P t E n A.nl ?_
    have e : A.nl.brk n = A.brk (n + 1) := by
      unfold Ab.brk Ab.nl
      by_cases h0 : n = 0
      · subst h0; simp
      · rw [if_neg h0, if_neg (by omega)]; simp; omega
    rw [e]; exact h
theorem txg_brks (t : List Tg) : ∀ (n : Nat) (p : Bool), txg p (brks n ++ t) = List.replicate n 59 ++ txg (if n = 0 then p else false) t
  | 0, p => by simp [brks]
  | n + 1, p => by
    show 59 :: txg false (brks n ++ t) = _
    rw [txg_brks t n false]
    simp [List.replicate_succ]
theorem recs_brks (t : List Tg) : ∀ (n : Nat) (s : Ab), recs s (brks n ++ t) = recs (s.brk n) t
  | 0, s => rfl
  | n + 1, s => by
    show recs s.nl (brks n ++ t) = _
    rw [recs_brks t n]
    congr 1
    unfold Ab.brk Ab.nl
    by_cases h0 : n = 0
    · subst h0; simp
    · rw [if_neg h0, if_neg (by omega)]; simp; omega
theorem ren_brks (δ : Int) (t : List Tg) : ∀ n, ren δ (brks n ++ t) = brks n ++ ren δ t
  | 0 => rfl
  | n + 1 => by show Tg.nl :: ren δ (brks n ++ t) = _; rw [ren_brks δ t n]; rfl
/-- where the first name stands -/
def FN (l : List Tg) (fn : Int) : Prop := (fn = -1 ∧ NoN l) ∨ ∃ l1 a b c d e l2, l = l1 ++ .seg [a, b, c, d, e] :: l2 ∧ NoN l1 ∧ fn = ((txg false (l1 ++ [.seg [a, b, c, d]])).length : Nat)
def z0 : Ab := ⟨0, 0, 0, 0, 0, 0⟩
/-- the head of the text that is appended: the first segment's four numbers are written anew -/
def hdn (P : Stt) (p : Stt) (L s : Nat) (a b c d : Int) : List Int := [(if s = 0 then P.gc + a else a) - (if L = 0 ∧ s = 0 then p.gc else 0), P.si + b - p.si, P.ol + c - p.ol, P.oc + d - p.oc]
theorem match_out (P p : Stt) (L s : Nat) (hP : P.gl = L) (a b c d : Int) (r : List Int) (rest : List Tg) (hr : r = [] ∨ ∃ e, r = [e]) (hw : WS rest) :
    Match P ⟨0, p.gc, p.si, p.ol, p.oc, p.on⟩ (brks L ++ (brks s ++ (match r with
      | [] => .seg (hdn P p L s a b c d) :: ren (P.on - p.on) rest
      | e :: _ => .seg (hdn P p L s a b c d ++ [e + (P.on - p.on)]) :: rest))) (recs z0 (brks s ++ .seg (a :: b :: c :: d :: r) :: rest)) := by
  refine match_brks _ _ _ _ _ (match_brks _ _ _ _ _ ?_)
  rw [recs_brks]
  have hb : ((Ab.mk 0 p.gc p.si p.ol p.oc p.on).brk L).brk s = ⟨(L : Int) + s, if L = 0 ∧ s = 0 then p.gc else 0, p.si, p.ol, p.oc, p.on⟩ := by
    unfold Ab.brk
    by_cases h1 : L = 0 <;> by_cases h2 : s = 0 <;> simp [h1, h2]
  have hs : z0.brk s = ⟨s, 0, 0, 0, 0, 0⟩ := by
    unfold Ab.brk z0
    by_cases h2 : s = 0 <;> simp [h2]
  rw [hb, hs]
  rcases hr with rfl | ⟨e, rfl⟩
  · have hrel : Rel P p.on false (Ab.seg ⟨s, 0, 0, 0, 0, 0⟩ [a, b, c, d]) (Ab.seg ⟨(L : Int) + s, if L = 0 ∧ s = 0 then p.gc else 0, p.si, p.ol, p.oc, p.on⟩ (hdn P p L s a b c d)) := by
      refine ⟨?_, ?_, ?_, ?_, ?_, ?_, fun c => (by cases c), fun _ => ?_⟩
      · show (0 : Int) ≤ s; omega
      · show (L : Int) + s = P.gl + s; omega
      · show (if L = 0 ∧ s = 0 then p.gc else 0) + ((if s = 0 then P.gc + a else a) - (if L = 0 ∧ s = 0 then p.gc else 0)) = 0 + a + (if (s : Int) = 0 then P.gc else 0)
        by_cases h2 : s = 0
        · rw [if_pos h2, if_pos (show (s : Int) = 0 by omega)]; omega
        · rw [if_neg h2, if_neg (show ¬ (s : Int) = 0 by omega)]; omega
      · show p.si + (P.si + b - p.si) = P.si + (0 + b); omega
      · show p.ol + (P.ol + c - p.ol) = P.ol + (0 + c); omega
      · show p.oc + (P.oc + d - p.oc) = P.oc + (0 + d); omega
      · show (0 : Int) + 0 = 0 ∧ p.on + 0 = p.on; omega
    exact ⟨hrel.okr' 4 (by omega), match_ren P p.on rest _ _ hw hrel⟩
  · have hrel : Rel P p.on true (Ab.seg ⟨s, 0, 0, 0, 0, 0⟩ [a, b, c, d, e]) (Ab.seg ⟨(L : Int) + s, if L = 0 ∧ s = 0 then p.gc else 0, p.si, p.ol, p.oc, p.on⟩ (hdn P p L s a b c d ++ [e + (P.on - p.on)])) := by
      refine ⟨?_, ?_, ?_, ?_, ?_, ?_, fun _ => ?_, fun c => (by cases c)⟩
      · show (0 : Int) ≤ s; omega
      · show (L : Int) + s = P.gl + s; omega
      · show (if L = 0 ∧ s = 0 then p.gc else 0) + ((if s = 0 then P.gc + a else a) - (if L = 0 ∧ s = 0 then p.gc else 0)) = 0 + a + (if (s : Int) = 0 then P.gc else 0)
        by_cases h2 : s = 0
        · rw [if_pos h2, if_pos (show (s : Int) = 0 by omega)]; omega
        · rw [if_neg h2, if_neg (show ¬ (s : Int) = 0 by omega)]; omega
      · show p.si + (P.si + b - p.si) = P.si + (0 + b); omega
      · show p.ol + (P.ol + c - p.ol) = P.ol + (0 + c); omega
      · show p.oc + (P.oc + d - p.oc) = P.oc + (0 + d); omega
      · show p.on + (e + (P.on - p.on)) = P.on + (0 + e); omega
    exact ⟨hrel.okr 5, match_same P p.on rest _ _ hrel⟩
/-- the chunk's text, cut for AppendSourceMapChunk: behind the first four numbers Y; nm: (mid, e, Y2) with Y = mid, e's digits, Y2 -/
inductive Cut (Y : List Int) : Option (List Int × Int × List Int) → Prop where
  | no : Cut Y none
  | yes (mid : List Int) (e : Int) (Y2 : List Int) (h : Y = mid ++ (enc e ++ Y2)) : Cut Y (some (mid, e, Y2))
/-- what is shown behind the first segment's four numbers -/
def tailY (δ : Int) (Y : List Int) : Option (List Int × Int × List Int) → List Int
  | none => Y
  | some (mid, e, Y2) => mid ++ (enc (e + δ) ++ Y2)
theorem lsg_seg (l : List Tg) (p : Bool) (zs : List Int) : lsg p (l ++ [.seg zs]) = true := by rw [lsg_app]; rfl
theorem cut_of (δ : Int) (s : Nat) (a b c d : Int) (r : List Int) (rest : List Tg) (fn : Int) (hr : r = [] ∨ ∃ e, r = [e]) (h : FN (brks s ++ .seg (a :: b :: c :: d :: r) :: rest) fn) :
    ∃ nm, Cut (encL r ++ txg true rest) nm ∧ (match nm with | none => fn = -1 | some (mid, _, _) => fn = (s + (encs a b c d).length + mid.length : Nat)) ∧
      ∀ (h4 : List Int), (match r with
      | [] => txg false (.seg h4 :: ren δ rest)
      | e :: _ => txg false (.seg (h4 ++ [e + δ]) :: rest)) = encL h4 ++ tailY δ (encL r ++ txg true rest) nm := by
  rcases h with ⟨rfl, hn⟩ | ⟨l1, a1, b1, c1, d1, e1, l2, hl, hn, hf⟩
  · have hr0 : r = [] := by
      rcases hr with h | ⟨e, rfl⟩
      · exact h
      · exact absurd rfl (hn _ (List.mem_append_right _ List.mem_cons_self))
    subst hr0
    refine ⟨none, .no, rfl, fun h4 => ?_⟩
    have hnr : NoN rest := fun zs hz => hn zs (List.mem_append_right _ (List.mem_cons_of_mem _ hz))
    simp [txg, tailY, encL, ren_non δ rest hnr]
  · -- l1 starts with the breaks
    have hsplit : ∀ (s : Nat) (l1 : List Tg), brks s ++ .seg (a :: b :: c :: d :: r) :: rest = l1 ++ .seg [a1, b1, c1, d1, e1] :: l2 → (l1 = brks s ∧ a :: b :: c :: d :: r = [a1, b1, c1, d1, e1] ∧ rest = l2) ∨ ∃ m1, l1 = brks s ++ .seg (a :: b :: c :: d :: r) :: m1 ∧ rest = m1 ++ .seg [a1, b1, c1, d1, e1] :: l2 := by
      intro s
      induction s with
      | zero =>
        intro l1 h
        rcases l1 with _ | ⟨x, m1⟩
        · simp [brks] at h
          exact .inl ⟨rfl, by simp [h.1], h.2⟩
        · simp [brks] at h
          exact .inr ⟨m1, by rw [← h.1]; rfl, h.2⟩
      | succ s ih =>
        intro l1 h
        rcases l1 with _ | ⟨x, m1⟩
        · simp [brks, List.replicate_succ] at h
        · have h' : Tg.nl = x ∧ brks s ++ .seg (a :: b :: c :: d :: r) :: rest = m1 ++ .seg [a1, b1, c1, d1, e1] :: l2 := by
            simpa [brks, List.replicate_succ] using h
          rcases ih m1 h'.2 with ⟨h1, h2, h3⟩ | ⟨m2, h1, h2⟩
          · exact .inl ⟨by rw [← h'.1, h1]; rfl, h2, h3⟩
          · exact .inr ⟨m2, by rw [← h'.1, h1]; rfl, h2⟩
    rcases hsplit s l1 hl with ⟨rfl, h2, rfl⟩ | ⟨m1, rfl, rfl⟩
    · simp only [List.cons.injEq] at h2
      obtain ⟨rfl, rfl, rfl, rfl, rfl⟩ := h2
      refine ⟨some ([], e1, txg true rest), .yes _ _ _ (by simp [encL]), ?_, fun h4 => ?_⟩
      · rw [hf, txg_brks]
        simp [txg, encL_four]
      · simp [txg, tailY, encL]
    · have hr0 : r = [] := by
        rcases hr with h | ⟨e, rfl⟩
        · exact h
        · exact absurd rfl (hn _ (List.mem_append_right _ List.mem_cons_self))
      subst hr0
      have hm1 : NoN m1 := fun zs hz => hn zs (List.mem_append_right _ (List.mem_cons_of_mem _ hz))
      refine ⟨some (txg true (m1 ++ [.seg [a1, b1, c1, d1]]), e1, txg true l2), .yes _ _ _ ?_, ?_, fun h4 => ?_⟩
      · rw [txg_app, txg_app]
        simp [encL, txg]
      · rw [hf, List.append_assoc, txg_brks]
        show ((_ ++ txg _ (Tg.seg [a, b, c, d] :: (m1 ++ [Tg.seg [a1, b1, c1, d1]]))).length : Int) = _
        have : ∀ q : Bool, q = false → (txg q (Tg.seg [a, b, c, d] :: (m1 ++ [Tg.seg [a1, b1, c1, d1]]))) = encs a b c d ++ txg true (m1 ++ [Tg.seg [a1, b1, c1, d1]]) := by
          intro q hq; subst hq; simp [txg, encL_four]
        rw [this _ (by split <;> rfl)]
        simp; omega
      · simp only [txg, tailY, encL]
        rw [ren_app δ _ _ hm1, ren, if_pos (show [a1, b1, c1, d1, e1].length = 5 from rfl), txg_app, txg_app]
        simp [txg, encL, nth]
theorem txg_len : ∀ (l : List Tg) (p : Bool), WS l → (txg p l).length ≤ 36 * l.length
  | [], p, _ => by simp [txg]
  | .nl :: t, p, h => by have := txg_len t false (fun zs hz => h zs (List.mem_cons_of_mem _ hz)); simp [txg]; omega
  | .seg zs :: t, p, h => by
    have := txg_len t true (fun zs hz => h zs (List.mem_cons_of_mem _ hz))
    have hl : (encL zs).length ≤ 7 * zs.length := by
      clear h
      induction zs with
      | nil => simp [encL]
      | cons z zs ih => have := enc_len z; simp [encL] at ih ⊢; omega
    have := h zs List.mem_cons_self
    cases p <;> simp [txg] <;> omega
end Go.Proofs.YtoegmcakolidbaaDoor
