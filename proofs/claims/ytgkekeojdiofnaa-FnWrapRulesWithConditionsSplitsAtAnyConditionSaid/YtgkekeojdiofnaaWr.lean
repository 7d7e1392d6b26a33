/-
  What wrapping rules with conditions leaves: the chain of at-rules and the number of rules at the bottom. Plain law. No statement of the seat is proved here.
-/
import Derived.WalkKit
namespace Go.Proofs.Ytgkekeojdiofnaa

/-- a condition: its layers (named or not), the number of its supports conditions -/
structure Cd where
  ls : List Bool
  sn : Nat
instance : Inhabited Cd := ⟨⟨[], 0⟩⟩
/-- the chain from the outside in (true: a layer, false: supports), the number of rules at the bottom -/
structure Ns where
  ch : List Bool
  m : Nat
def Ns.empty (s : Ns) : Bool := s.ch.isEmpty && s.m == 0
/-- one layer: an anonymous one around nothing is left out -/
def layer (t : Bool) (s : Ns) : Ns := if s.empty = true ∧ t = false then s else ⟨true :: s.ch, s.m⟩
def layers : List Bool → Ns → Ns | [], s => s | t :: r, s => layers r (layer t s)
/-- n supports conditions -/
def sups : Nat → Ns → Ns | 0, s => s | n + 1, s => sups n ⟨false :: s.ch, s.m⟩
def cond (c : Cd) (s : Ns) : Ns := let s1 := layers c.ls s; if s1.empty = true then s1 else sups c.sn s1
/-- all conditions, the last one first -/
def conds (cs : List Cd) (s : Ns) : Ns := cs.foldr cond s
theorem conds_append (a b : List Cd) (s : Ns) : conds (a ++ b) s = conds a (conds b s) := by unfold conds; rw [List.foldr_append]
theorem conds_split (cs : List Cd) (k : Nat) (s : Ns) : conds cs s = conds (cs.take k) (conds (cs.drop k) s) := by rw [← conds_append, List.take_append_drop]
theorem layers_snoc (a : List Bool) (t : Bool) (s : Ns) : layers (a ++ [t]) s = layer t (layers a s) := by
  induction a generalizing s with
  | nil => rfl
  | cons x r ih => exact ih (layer x s)
theorem sups_succ (n : Nat) (s : Ns) : sups (n + 1) s = ⟨false :: (sups n s).ch, (sups n s).m⟩ := by
  induction n generalizing s with
  | zero => rfl
  | succ n ih => exact ih ⟨false :: s.ch, s.m⟩
theorem sups_m (n : Nat) (s : Ns) : (sups n s).m = s.m := by
  induction n generalizing s with
  | zero => rfl
  | succ n ih => exact ih ⟨false :: s.ch, s.m⟩
theorem conds_last (cs : List Cd) (i : Nat) (c : Cd) (h : cs[i]? = some c) (s : Ns) : conds (cs.drop i) s = cond c (conds (cs.drop (i + 1)) s) := by
  obtain ⟨hi, rfl⟩ := List.getElem?_eq_some_iff.1 h
  rw [List.drop_eq_getElem_cons hi]
  rfl
/-- how long a chain may grow -/
def wt (c : Cd) : Nat := c.ls.length + c.sn
theorem layer_len (t : Bool) (s : Ns) : (layer t s).ch.length ≤ s.ch.length + 1 := by unfold layer; split <;> simp
theorem layers_len : ∀ (l : List Bool) (s : Ns), (layers l s).ch.length ≤ s.ch.length + l.length
  | [], s => by simp [layers]
  | t :: r, s => by
    have h1 := layers_len r (layer t s)
    have h2 := layer_len t s
    simp only [layers, List.length_cons]
    omega
theorem sups_len : ∀ (n : Nat) (s : Ns), (sups n s).ch.length = s.ch.length + n
  | 0, s => rfl
  | n + 1, s => by
    have := sups_len n ⟨false :: s.ch, s.m⟩
    simp only [sups, List.length_cons] at this ⊢
    omega
end Go.Proofs.Ytgkekeojdiofnaa
