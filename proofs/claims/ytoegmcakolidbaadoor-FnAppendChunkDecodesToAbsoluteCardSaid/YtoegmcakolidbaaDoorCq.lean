/-
  The plain state of a chunk builder, and what a printed text makes of it. No program in sight.
-/
import Derived.Test.YtoegmcakolidbaaDoorCb
import Derived.Test.YtoegmcakolidbaaDoorLot
namespace Go.Proofs.YtoegmcakolidbaaDoor
open Go.RowKit
set_option linter.unusedVariables false
theorem sw_cases (s : ByteArray) (i : Nat) : ((tm s i = true ∧ (cpt s i = 10 ∨ cpt s i = 8232 ∨ cpt s i = 8233 ∨ (cpt s i = 13 ∧ ¬ i + 1 < s.size) ∨ (cpt s i = 13 ∧ ∃ h : i + 1 < s.size, ¬ (s[i + 1]'h).toNat = 10))) ∨ (tm s i = false ∧ ((cpt s i = 13 ∧ un s i = 1 ∧ ∃ h : i + 1 < s.size, (s[i + 1]'h).toNat = 10) ∨ (cpt s i ≠ 13 ∧ cpt s i ≠ 10 ∧ cpt s i ≠ 8232 ∧ cpt s i ≠ 8233 ∧ ((cpt s i ≤ 65535 ∧ un s i = 1) ∨ (65535 < cpt s i ∧ un s i = 2)))))) := by
  unfold tm un
  by_cases h1 : cpt s i = 10
  · exact .inl ⟨by simp [h1], .inl h1⟩
  by_cases h2 : cpt s i = 8232
  · exact .inl ⟨by simp [h2], .inr (.inl h2)⟩
  by_cases h3 : cpt s i = 8233
  · exact .inl ⟨by simp [h3], .inr (.inr (.inl h3))⟩
  by_cases h4 : cpt s i = 13
  · by_cases h5 : i + 1 < s.size
    · have hb := byteAt_get s (i + 1) h5
      by_cases h6 : (s[i + 1]'h5).toNat = 10
      · exact .inr ⟨by simp [h4, h5, ← hb, h6], .inl ⟨h4, by simp [h4], h5, h6⟩⟩
      · exact .inl ⟨by simp [h4, h5, ← hb, h6], .inr (.inr (.inr (.inr ⟨h4, h5, h6⟩)))⟩
    · exact .inl ⟨by simp [h4, h5], .inr (.inr (.inr (.inl ⟨h4, h5⟩)))⟩
  · refine .inr ⟨by simp [h1, h2, h3, h4], .inr ⟨h4, h1, h2, h3, ?_⟩⟩
    by_cases h5 : cpt s i ≤ 65535
    · exact .inl ⟨h5, by simp [h5]⟩
    · exact .inr ⟨by omega, by simp [h5]⟩
structure Pq where
  toks : List Tk
  gl : Int
  gc : Int
  si : Int
  ol : Int
  oc : Int
  gcol : Int
  hp : Bool
  ls : Bool
/-- a mapping at column gc to (si, ol, oc) -/
def Pq.app (q : Pq) (gc si ol oc : Int) : Pq := { q with toks := q.toks ++ [.seg (gc - q.gc) (si - q.si) (ol - q.ol) (oc - q.oc)], gc := gc, si := si, ol := ol, oc := oc, hp := true }
/-- a line that has no mapping of its own is covered -/
def Pq.cover (q : Pq) : Pq := if !q.ls && q.hp then q.app 0 q.si q.ol q.oc else q
def Pq.brk (q : Pq) : Pq := { q with toks := q.toks ++ [.nl], gl := q.gl + 1, gc := 0, gcol := 0, ls := false }
def Pq.nl (q : Pq) : Pq := q.cover.brk
def stepQ (T : ByteArray) (i : Nat) (q : Pq) : Pq := if tm T i = true then q.nl else if cpt T i = 13 then q else { q with gcol := q.gcol + (un T i : Int) }
/-- the runes of T that start before k -/
def runQ (T : ByteArray) (q : Pq) : Nat → Pq
  | 0 => q
  | k + 1 => if ns T k = k then stepQ T k (runQ T q k) else runQ T q k
theorem runQ_next (T : ByteArray) (q : Pq) (i : Nat) (hb : ns T i = i) (hl : i < T.size) : runQ T q (i + wd T i) = stepQ T i (runQ T q i) := by
  have key : ∀ d, 1 ≤ d → d ≤ wd T i → runQ T q (i + d) = stepQ T i (runQ T q i) := by
    intro d h1 hd
    induction d with
    | zero => omega
    | succ d ih =>
      by_cases h0 : d = 0
      · subst h0
        show (if ns T i = i then _ else _) = _; rw [if_pos hb]
      · have hne : ¬ (ns T (i + d) = i + d) := by rw [(adv T i hb hl d (by omega) (by omega)).1]; omega
        show (if ns T (i + d) = i + d then _ else _) = _
        rw [if_neg hne]; exact ih (by omega) (by omega)
  exact key _ (wd_pos T i hl) (Nat.le_refl _)
/-- what stays within bounds -/
structure QBd (q0 q : Pq) (i : Nat) : Prop where
  gc0 : 0 ≤ q.gc
  gc1 : q.gc ≤ q0.gc
  gl : q.gl ≤ q0.gl + i
  gl0 : q0.gl ≤ q.gl
  gcol0 : 0 ≤ q.gcol
  gcol1 : q.gcol ≤ q0.gcol + 2 * i
  len : q.toks.length ≤ q0.toks.length + 2 * i
  si : q.si = q0.si
  ol : q.ol = q0.ol
  oc : q.oc = q0.oc
theorem runQ_bd (T : ByteArray) (q : Pq) (h0 : 0 ≤ q.gc) (h1 : 0 ≤ q.gcol) : ∀ i, QBd q (runQ T q i) i
  | 0 => ⟨h0, Int.le_refl _, by simp [runQ], by simp [runQ], h1, by simp [runQ], by simp [runQ], rfl, rfl, rfl⟩
  | i + 1 => by
    have h := runQ_bd T q h0 h1 i
    obtain ⟨a1, a2, a3, a4, a5, a6, a7, a8, a9, a10⟩ := h
    rw [runQ]
    split
    · unfold stepQ
      split
      · unfold Pq.nl Pq.brk Pq.cover
        split
        · exact ⟨Int.le_refl _, by show (0 : Int) ≤ _; omega, by show (runQ T q i).gl + 1 ≤ _; omega, by show _ ≤ (runQ T q i).gl + 1; omega, Int.le_refl _, by show (0 : Int) ≤ _; omega, by simp [Pq.app]; omega, a8, a9, a10⟩
        · exact ⟨Int.le_refl _, by show (0 : Int) ≤ _; omega, by show (runQ T q i).gl + 1 ≤ _; omega, by show _ ≤ (runQ T q i).gl + 1; omega, Int.le_refl _, by show (0 : Int) ≤ _; omega, by simp; omega, a8, a9, a10⟩
      · split
        · exact ⟨a1, a2, by omega, by omega, a5, by omega, by omega, a8, a9, a10⟩
        · have := un_pos T i
          exact ⟨a1, a2, by show (runQ T q i).gl ≤ _; omega, a4, by show 0 ≤ (runQ T q i).gcol + _; omega, by show (runQ T q i).gcol + _ ≤ _; omega, by show (runQ T q i).toks.length ≤ _; omega, a8, a9, a10⟩
    · exact ⟨a1, a2, by omega, by omega, a5, by omega, by omega, a8, a9, a10⟩
/-- the comma ahead of a segment, by the text's last byte -/
def cm (lb : Int) : List Int := if lb = 0 ∨ lb = 59 then [] else [44]
theorem cm_txt (l : List Tk) : (lst false l = true → cm (lastOf (txt false l)) = [44]) ∧ (lst false l = false → cm (lastOf (txt false l)) = []) := by
  rcases comma_of l with ⟨h, hb⟩ | ⟨h, hb⟩
  · refine ⟨fun _ => ?_, fun c => (by rw [h] at c; cases c)⟩
    obtain ⟨b1, b2, b3, b4⟩ := hb
    rw [cm, if_neg (by omega)]
  · exact ⟨fun c => (by rw [h] at c; cases c), fun _ => by rw [cm, if_pos hb]⟩
theorem last_ok (l : List Tk) : lastOf (txt false l) = 0 ∨ lastOf (txt false l) = 59 ∨ B64 (lastOf (txt false l)) := by
  rcases comma_of l with ⟨h, hb⟩ | ⟨h, hb | hb⟩
  · exact .inr (.inr hb)
  · exact .inl hb
  · exact .inr (.inl hb)
theorem txt_seg (l : List Tk) (a b c d : Int) : txt false (l ++ [.seg a b c d]) = txt false l ++ (cm (lastOf (txt false l)) ++ encs a b c d) := by
  rw [txt_app]
  rcases hl : lst false l with _ | _
  · rw [(cm_txt l).2 hl]; simp [txt]
  · rw [(cm_txt l).1 hl]; simp [txt]
theorem txt_nl (l : List Tk) : txt false (l ++ [.nl]) = txt false l ++ [59] := by rw [txt_app]; simp [txt]
end Go.Proofs.YtoegmcakolidbaaDoor
