/-
  The plain state of a chunk builder and of its reference, and what a printed text makes of it. No program in sight. No statement of the seat is proved here.
-/
import Derived.Test.YtfbeeekakfllpaaDoorTk
import Derived.Test.YtfbeeekakfllpaaDoorLot
namespace Go.Proofs.YtfbeeekakfllpaaDoor
open Go.RowKit
set_option linter.unusedVariables false
theorem sw_cases (s : ByteArray) (i : Nat) : ((tm s i = true ∧ (cpt s i = 10 ∨ cpt s i = 8232 ∨ cpt s i = 8233 ∨ (cpt s i = 13 ∧ ¬ i + 1 < s.size) ∨ (cpt s i = 13 ∧ ∃ h : i + 1 < s.size, ¬ (s[i + 1]'h).toNat = 10))) ∨ (tm s i = false ∧ ((cpt s i = 13 ∧ un s i = 1 ∧ ∃ h : i + 1 < s.size, (s[i + 1]'h).toNat = 10) ∨ (cpt s i ≠ 13 ∧ cpt s i ≠ 10 ∧ cpt s i ≠ 8232 ∧ cpt s i ≠ 8233 ∧ ((cpt s i ≤ 65535 ∧ un s i = 1) ∨ (65535 < cpt s i ∧ un s i = 2)))))) := by
  unfold tm un
  by_cases h1 : cpt s i = 10
  · exact .inl ⟨by simp [h1], .inl h1⟩
  by_cases h2 : cpt s i = 8232
  · exact .inl ⟨by simp [h2], .inr (.inl h2)⟩
  by_cases h3 : cpt s i = 8233
  · exact .inl ⟨by simp [h3], .inr (.inr (.inl h3))⟩
  by_cases h4 : cpt s i = 13
  · by_cases h5 : i + 1 < s.size
    · have hb := byteAt_get s (i + 1) h5
      by_cases h6 : (s[i + 1]'h5).toNat = 10
      · exact .inr ⟨by simp [h4, h5, ← hb, h6], .inl ⟨h4, by simp [h4], h5, h6⟩⟩
      · exact .inl ⟨by simp [h4, h5, ← hb, h6], .inr (.inr (.inr (.inr ⟨h4, h5, h6⟩)))⟩
    · exact .inl ⟨by simp [h4, h5], .inr (.inr (.inr (.inl ⟨h4, h5⟩)))⟩
  · refine .inr ⟨by simp [h1, h2, h3, h4], .inr ⟨h4, h1, h2, h3, ?_⟩⟩
    by_cases h5 : cpt s i ≤ 65535
    · exact .inl ⟨h5, by simp [h5]⟩
    · exact .inr ⟨by omega, by simp [h5]⟩
structure Pq where
  toks : List Tk
  rows : List (List Sg)
  cur : List Sg
  gl : Int
  gc : Int
  ol : Int
  oc : Int
  on : Int
  hn : Bool
  gcol : Int
  hp : Bool
  ls : Bool
/-- the deltas of a mapping -/
def Pq.ds (q : Pq) (gc ol oc : Int) (nm : Option Nat) : List Int := [gc - q.gc, 0, ol - q.ol, oc - q.oc] ++ (match nm with | none => [] | some k => [(k : Int) - q.on])
def nmI (nm : Option Nat) : Int := match nm with | none => -1 | some k => (k : Int)
/-- a mapping at column gc to (ol, oc), of name nm -/
def Pq.app (q : Pq) (gc ol oc : Int) (nm : Option Nat) : Pq :=
  { q with toks := q.toks ++ [.seg (q.ds gc ol oc nm)], cur := q.cur ++ [⟨gc, if nm.isSome then 5 else 4, ol, oc, nmI nm⟩], gc := gc, ol := ol, oc := oc, on := (match nm with | none => q.on | some k => (k : Int)), hn := nm.isSome, hp := true }
/-- a line that has no mapping of its own is covered -/
def Pq.cover (q : Pq) : Pq := if !q.ls && q.hp then q.app 0 q.ol q.oc none else q
def Pq.brk (q : Pq) : Pq := { q with toks := q.toks ++ [.nl], rows := q.rows ++ [q.cur], cur := [], gl := q.gl + 1, gc := 0, gcol := 0, ls := false }
def Pq.nl (q : Pq) : Pq := q.cover.brk
def stepQ (T : ByteArray) (i : Nat) (q : Pq) : Pq := if tm T i = true then q.nl else if cpt T i = 13 then q else { q with gcol := q.gcol + (un T i : Int) }
/-- the runes of T that start before k -/
def runQ (T : ByteArray) (q : Pq) : Nat → Pq
  | 0 => q
  | k + 1 => if ns T k = k then stepQ T k (runQ T q k) else runQ T q k
theorem runQ_next (T : ByteArray) (q : Pq) (i : Nat) (hb : ns T i = i) (hl : i < T.size) : runQ T q (i + wd T i) = stepQ T i (runQ T q i) := by
  have key : ∀ d, 1 ≤ d → d ≤ wd T i → runQ T q (i + d) = stepQ T i (runQ T q i) := by
    intro d h1 hd
    induction d with
    | zero => omega
    | succ d ih =>
      by_cases h0 : d = 0
      · subst h0
        show (if ns T i = i then _ else _) = _; rw [if_pos hb]
      · have hne : ¬ (ns T (i + d) = i + d) := by rw [(adv T i hb hl d (by omega) (by omega)).1]; omega
        show (if ns T (i + d) = i + d then _ else _) = _
        rw [if_neg hne]; exact ih (by omega) (by omega)
  exact key _ (wd_pos T i hl) (Nat.le_refl _)
/-- what stays within bounds -/
structure QBd (q0 q : Pq) (i : Nat) : Prop where
  gc0 : 0 ≤ q.gc
  gc1 : q.gc ≤ q0.gc
  gl : q.gl ≤ q0.gl + i
  gl0 : q0.gl ≤ q.gl
  gcol0 : 0 ≤ q.gcol
  gcol1 : q.gcol ≤ q0.gcol + 2 * i
  len : q.toks.length ≤ q0.toks.length + 2 * i
  ol : q.ol = q0.ol
  oc : q.oc = q0.oc
  on : q.on = q0.on
theorem runQ_bd (T : ByteArray) (q : Pq) (h0 : 0 ≤ q.gc) (h1 : 0 ≤ q.gcol) : ∀ i, QBd q (runQ T q i) i
  | 0 => ⟨h0, Int.le_refl _, by simp [runQ], by simp [runQ], h1, by simp [runQ], by simp [runQ], rfl, rfl, rfl⟩
  | i + 1 => by
    have h := runQ_bd T q h0 h1 i
    obtain ⟨a1, a2, a3, a4, a5, a6, a7, a8, a9, a10⟩ := h
    rw [runQ]
    split
    · unfold stepQ
      split
      · unfold Pq.nl Pq.brk Pq.cover
        split
        · exact ⟨Int.le_refl _, by show (0 : Int) ≤ _; omega, by show (runQ T q i).gl + 1 ≤ _; omega, by show _ ≤ (runQ T q i).gl + 1; omega, Int.le_refl _, by show (0 : Int) ≤ _; omega, by simp [Pq.app]; omega, a8, a9, a10⟩
        · exact ⟨Int.le_refl _, by show (0 : Int) ≤ _; omega, by show (runQ T q i).gl + 1 ≤ _; omega, by show _ ≤ (runQ T q i).gl + 1; omega, Int.le_refl _, by show (0 : Int) ≤ _; omega, by simp; omega, a8, a9, a10⟩
      · split
        · exact ⟨a1, a2, by omega, by omega, a5, by omega, by omega, a8, a9, a10⟩
        · have := un_pos T i
          exact ⟨a1, a2, by show (runQ T q i).gl ≤ _; omega, a4, by show 0 ≤ (runQ T q i).gcol + _; omega, by show (runQ T q i).gcol + _ ≤ _; omega, by show (runQ T q i).toks.length ≤ _; omega, a8, a9, a10⟩
    · exact ⟨a1, a2, by omega, by omega, a5, by omega, by omega, a8, a9, a10⟩
/-- the tokens say the rows; every segment is whole -/
structure Qok (q : Pq) : Prop where
  wk : Wk q.toks
  rd : rdOf q.toks = ⟨q.rows, q.cur, q.gc, q.ol, q.oc, q.on⟩
theorem Qok.app {q : Pq} (h : Qok q) (gc ol oc : Int) (nm : Option Nat) : Qok (q.app gc ol oc nm) := by
  have hl : (q.ds gc ol oc nm).length = if nm.isSome then 5 else 4 := by unfold Pq.ds; cases nm <;> rfl
  refine ⟨?_, ?_⟩
  · show Wk (q.toks ++ _)
    rw [wk_app]
    refine ⟨h.wk, ?_, trivial⟩
    rw [hl]; cases nm <;> simp
  · show rdOf (q.toks ++ _) = _
    rw [rdOf_snoc, h.rd]
    unfold Rdr.tok Pq.app
    cases nm with
    | none =>
      simp only [Pq.ds, d0, List.append_nil, List.getD_cons_zero, List.getD_cons_succ, List.length_cons, List.length_nil, nmI]
      simp
      omega
    | some k =>
      simp only [Pq.ds, d0, nmI, List.cons_append, List.nil_append, List.getD_cons_zero, List.getD_cons_succ, List.length_cons, List.length_nil]
      simp
      omega
theorem Qok.brk {q : Pq} (h : Qok q) : Qok q.brk := by
  refine ⟨?_, ?_⟩
  · show Wk (q.toks ++ _)
    rw [wk_app]; exact ⟨h.wk, trivial⟩
  · show rdOf (q.toks ++ _) = _
    rw [rdOf_snoc, h.rd]; rfl
theorem Qok.cover {q : Pq} (h : Qok q) : Qok q.cover := by
  unfold Pq.cover
  split
  · exact h.app _ _ _ _
  · exact h
theorem Qok.gcol {q : Pq} (h : Qok q) (x : Int) : Qok { q with gcol := x } := ⟨h.wk, h.rd⟩
theorem Qok.run {q : Pq} (h : Qok q) (T : ByteArray) : ∀ i, Qok (runQ T q i)
  | 0 => h
  | i + 1 => by
    have k := Qok.run h T i
    rw [runQ]
    split
    · unfold stepQ
      split
      · exact k.cover.brk
      · split
        · exact k
        · exact k.gcol _
    · exact k
end Go.Proofs.YtfbeeekakfllpaaDoor
