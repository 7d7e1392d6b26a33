/-
  The plain law of the chunk builder's script: what a script keeps, and how a reader finds the text. No program in sight.
-/
import Derived.Test.YtlllfljdagjknaaDoorCq
namespace Go.Proofs.YtlllfljdagjknaaDoor
open Go.RowKit
set_option linter.unusedVariables false
/-- what holds behind t steps: n line breaks printed, m mappings asked for -/
structure Inv (q : Pq) (n m t : Nat) : Prop where
  okk : Okk 0 q.toks
  col : colOf 0 q.toks = q.gc
  src : srcOf q.toks = q.si
  ol : q.ol = q.si
  oc : q.oc = -q.si
  gc0 : 0 ≤ q.gc
  gc1 : q.gc ≤ t
  gcol0 : 0 ≤ q.gcol
  gcol1 : q.gcol ≤ t
  gl : q.gl = n
  nl : nls q.toks = n
  sg : m ≤ sgs q.toks
  nt : n ≤ t
  len : q.toks.length ≤ 2 * t
  si0 : -536870912 ≤ q.si
  si1 : q.si ≤ 536870911
  ls : q.ls = false
theorem Inv.zero : Inv ⟨[], 0, 0, 0, 0, 0, 0, false, false⟩ 0 0 0 := ⟨trivial, rfl, rfl, rfl, rfl, by decide, by decide, by decide, by decide, rfl, rfl, Nat.le_refl _, Nat.le_refl _, Nat.le_refl _, by decide, by decide, rfl⟩
theorem Inv.x {q : Pq} {n m t : Nat} (h : Inv q n m t) : Inv { q with gcol := q.gcol + 1 } n m (t + 1) :=
  ⟨h.okk, h.col, h.src, h.ol, h.oc, h.gc0, by have := h.gc1; show q.gc ≤ _; omega, by have := h.gcol0; show 0 ≤ q.gcol + 1; omega, by have := h.gcol1; show q.gcol + 1 ≤ _; omega, h.gl, h.nl, h.sg, by have := h.nt; omega, by have := h.len; show q.toks.length ≤ _; omega, h.si0, h.si1, h.ls⟩
theorem Inv.app {q : Pq} {n m t : Nat} (h : Inv q n m t) (gc p : Int) (h0 : 0 ≤ gc) (h1 : gc ≤ t) (hp0 : -536870912 ≤ p) (hp1 : p ≤ 536870911) (ht : t ≤ 65536) : Inv (q.app gc p p (-p)) n (m + 1) (t + 1) := by
  have a1 := h.gc0
  have a2 := h.gc1
  have a3 := h.si0
  have a4 := h.si1
  refine ⟨?_, ?_, ?_, rfl, rfl, h0, by show gc ≤ _; omega, h.gcol0, by have := h.gcol1; show q.gcol ≤ _; omega, h.gl, ?_, ?_, by have := h.nt; omega, ?_, hp0, hp1, h.ls⟩
  · show Okk 0 (q.toks ++ _)
    rw [okk_app]
    refine ⟨h.okk, ?_, ?_, ?_, ?_, ?_, trivial⟩
    · rw [h.col]; omega
    · rw [h.ol]
    · rw [h.oc]; omega
    · unfold Bnd; omega
    · unfold Bnd; omega
  · show colOf 0 (q.toks ++ _) = gc
    rw [colOf_app]; simp only [colOf]; rw [h.col]; omega
  · show srcOf (q.toks ++ _) = p
    rw [srcOf_app]; simp only [srcOf]; rw [h.src]; omega
  · show nls (q.toks ++ _) = n
    rw [nls_app]; simp only [nls]; exact h.nl
  · show m + 1 ≤ sgs (q.toks ++ _)
    rw [sgs_app]; have := h.sg; simp only [sgs]; omega
  · show (q.toks ++ _).length ≤ _
    rw [List.length_append]; have := h.len; simp; omega
theorem Inv.nl' {q : Pq} {n m t : Nat} (h : Inv q n m t) (ht : t ≤ 65536) : Inv q.nl (n + 1) m (t + 1) := by
  have a1 := h.gc0
  have a2 := h.gc1
  have hb : ∀ q' : Pq, Okk 0 q'.toks → srcOf q'.toks = q.si → q'.si = q.si → q'.ol = q.si → q'.oc = -q.si → q'.gl = n → nls q'.toks = n → m ≤ sgs q'.toks → q'.toks.length ≤ 2 * t + 1 → Inv q'.brk (n + 1) m (t + 1) := by
    intro q' e1 e2 e3 e4 e5 e6 e7 e8 e9
    refine ⟨?_, ?_, ?_, by show q'.ol = q'.si; rw [e4, e3], by show q'.oc = -q'.si; rw [e5, e3], Int.le_refl _, by show (0 : Int) ≤ _; omega, Int.le_refl _, by show (0 : Int) ≤ _; omega, by show q'.gl + 1 = _; rw [e6]; push_cast; rfl, ?_, ?_, by have := h.nt; omega, ?_, by show _ ≤ q'.si; rw [e3]; exact h.si0, by show q'.si ≤ _; rw [e3]; exact h.si1, rfl⟩
    · show Okk 0 (q'.toks ++ _); rw [okk_app]; exact ⟨e1, trivial⟩
    · show colOf 0 (q'.toks ++ _) = 0; rw [colOf_app]; rfl
    · show srcOf (q'.toks ++ _) = q'.si; rw [srcOf_app, e2, e3]; simp [srcOf]
    · show nls (q'.toks ++ _) = _; rw [nls_app, e7]; rfl
    · show m ≤ sgs (q'.toks ++ _); rw [sgs_app]; omega
    · show (q'.toks ++ _).length ≤ _; rw [List.length_append]; simp; omega
  unfold Pq.nl Pq.cover
  split
  · have k := h.ol
    have k2 := h.oc
    refine hb _ ?_ ?_ rfl h.ol h.oc h.gl ?_ ?_ ?_
    · show Okk 0 (q.toks ++ _)
      rw [okk_app]
      refine ⟨h.okk, ?_, ?_, ?_, ?_, ?_, trivial⟩
      · rw [h.col]; omega
      · omega
      · omega
      · unfold Bnd; omega
      · unfold Bnd; omega
    · show srcOf (q.toks ++ _) = q.si
      rw [srcOf_app]; simp only [srcOf]; rw [h.src]; omega
    · show nls (q.toks ++ _) = n
      rw [nls_app]; simp only [nls]; exact h.nl
    · show m ≤ sgs (q.toks ++ _)
      rw [sgs_app]; have := h.sg; omega
    · show (q.toks ++ _).length ≤ _
      rw [List.length_append]; have := h.len; simp; omega
  · exact hb q h.okk h.src rfl h.ol h.oc h.gl h.nl h.sg (by have := h.len; omega)
/-! the three printed texts -/
def Tx : ByteArray := ⟨#[120]⟩
def Tn : ByteArray := ⟨#[10]⟩
def Tc : ByteArray := ⟨#[13, 10]⟩
theorem run_x (q : Pq) : runQ Tx q Tx.size = { q with gcol := q.gcol + 1 } := by
  have h1 : tm Tx 0 = false := by decide
  have h2 : cpt Tx 0 = 120 := by decide
  have h3 : un Tx 0 = 1 := by decide
  show (if ns Tx 0 = 0 then stepQ Tx 0 q else q) = _
  rw [if_pos (show ns Tx 0 = 0 from rfl)]; unfold stepQ; rw [if_neg (by rw [h1]; simp), if_neg (by rw [h2]; decide), h3]; rfl
theorem run_n (q : Pq) : runQ Tn q Tn.size = q.nl := by
  have h1 : tm Tn 0 = true := by decide
  show (if ns Tn 0 = 0 then stepQ Tn 0 q else q) = _
  rw [if_pos (show ns Tn 0 = 0 from rfl)]; unfold stepQ; rw [if_pos h1]
theorem run_c (q : Pq) : runQ Tc q Tc.size = q.nl := by
  have h1 : tm Tc 0 = false := by decide
  have h2 : cpt Tc 0 = 13 := by decide
  have h3 : tm Tc 1 = true := by decide
  have h4 : ns Tc 1 = 1 := by decide
  have e1 : runQ Tc q 1 = q := by
    show (if ns Tc 0 = 0 then stepQ Tc 0 q else q) = _
    rw [if_pos (show ns Tc 0 = 0 from rfl)]; unfold stepQ; rw [if_neg (by rw [h1]; simp), if_pos h2]
  show (if ns Tc 1 = 1 then stepQ Tc 1 (runQ Tc q 1) else runQ Tc q 1) = _
  rw [if_pos h4, e1]; unfold stepQ; rw [if_pos h3]
end Go.Proofs.YtlllfljdagjknaaDoor
