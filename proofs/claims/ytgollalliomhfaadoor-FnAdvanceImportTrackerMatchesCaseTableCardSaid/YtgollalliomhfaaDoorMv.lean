/-
  Maps whose values are held as they are (whatever their type): made, looked into, written. No statement of the seat is proved here.
-/
import Derived.Test.YtgollalliomhfaaDoorBase
import Derived.Maps.OwnSet
import Derived.Maps.StringElems
import Derived.MapViews
import Derived.StringKeys
namespace Go.Proofs.YtgollalliomhfaaDoor
open Go.Maps
/-- a value, held as it is -/
def rawE (v : Value) : Option (DataW Value × List MemPlace) := some (.held v, [])
abbrev Mv (P : Program) (k : TypeId) (w : World) (bm n : Nat) (D : DataW Value) : Prop := w.ownsMap P k rawE bm n D
section
variable {P : Program} {k t e : TypeId} {w : World} {bm n : Nat} {D : DataW Value}
theorem Mv.fresh (h : w.heap[bm]? = some (.map #[] 0)) : Mv P k w bm 0 (.map []) :=
  ⟨#[], 0, h, ⟨by simp, Go.MapKept.stamped_empty 0, by simp⟩, Nat.le_refl _, rfl⟩
theorem Mv.look (h : Mv P k w bm n D) (K : Keyed P k) (ht : P.underlying t = some (.map k e)) {z : Value} (hz : (zeroValue e).run P w = .ok z w) {key : Value} {kl : Lit} (hkey : keyOf P k key = some kl) :
    ∃ v, (Instr.lookup t (.map (some bm)) key true).run P w = .ok (.tuple #[v, .bool (Maps.has D kl)]) w ∧ D.atKey kl (.held z) = .held v := by
  obtain ⟨v, ps, hrun, hv⟩ := h.look_ok K ht hz (show rawE z = some (.held z, []) from rfl) hkey
  refine ⟨v, hrun, ?_⟩
  simp only [rawE, Option.some.injEq, Prod.mk.injEq] at hv
  exact hv.1.symm
theorem Mv.look1 (h : Mv P k w bm n D) (K : Keyed P k) (ht : P.underlying t = some (.map k e)) {z : Value} (hz : (zeroValue e).run P w = .ok z w) {key : Value} {kl : Lit} (hkey : keyOf P k key = some kl) :
    ∃ v, (Instr.lookup t (.map (some bm)) key false).run P w = .ok v w ∧ D.atKey kl (.held z) = .held v := by
  obtain ⟨v, ps, hrun, hv⟩ := World.ownsMap.lookup h K ht hz (show rawE z = some (.held z, []) from rfl) hkey
  refine ⟨v, hrun, ?_⟩
  simp only [rawE, Option.some.injEq, Prod.mk.injEq] at hv
  exact hv.1.symm
theorem Mv.put (h : Mv P k w bm n D) (K : Keyed P k) (ht : P.underlying t = some (.map k e)) (hn : n < maxLen) {key val : Value} {kl : Lit} (hkey : keyOf P k key = some kl) :
    ∃ w', (Instr.mapUpdate t (.map (some bm)) key val).run P w = .ok () w' ∧ Mv P k w' bm (n + 1) (D.put kl (.held val)) ∧ w.grownBy w' (some bm) :=
  World.ownsMap.update h K ht hn hkey (show rawE val = some (.held val, []) from rfl)
theorem Mv.putS (h : Mv P k w bm n D) (K : Keyed P k) (ht : P.underlying t = some (.map k e)) (hn : n < maxLen) {key val : Value} {kl : Lit} (hkey : keyOf P k key = some kl) :
    ∃ w', (Instr.mapUpdate t (.map (some bm)) key val).run P w = .ok () w' ∧ Mv P k w' bm (n + 1) (D.put kl (.held val)) ∧ w.grownBy w' (some bm) ∧ w'.heap.size = w.heap.size := by
  obtain ⟨w', h1, h2, h3⟩ := World.ownsMap.store h K ht hn hkey (show rawE val = some (.held val, []) from rfl)
  refine ⟨w', h1, h2, h3.grown, ?_⟩
  obtain ⟨es, clock, es', clock', hb, rfl⟩ := h3
  simp [ChangeMaps.setBlock]
end
/-- the last place at which a text stands among the first n -/
def lastS (ts : List ByteArray) (a : ByteArray) : Nat → Option Nat | 0 => none | j + 1 => if ts.getD j ByteArray.empty = a then some j else lastS ts a j
theorem lastS_lt {ts : List ByteArray} {a : ByteArray} : ∀ {n j : Nat}, lastS ts a n = some j → j < n
  | 0, j, h => by cases h
  | n + 1, j, h => by
    unfold lastS at h
    split at h
    · have := Option.some.inj h; omega
    · have := lastS_lt h; omega
/-- the literal of a text as a key -/
def ks (a : ByteArray) : Lit := .string a.data.toList
theorem ks_inj {a b : ByteArray} (h : ks a = ks b) : a = b := by
  have h1 : a.data.toList = b.data.toList := by simpa [ks] using h
  have h2 : a.data = b.data := by rw [← Array.toList_inj]; exact h1
  cases a; cases b; simp at h2; rw [h2]
/-- what a map of texts knows behind the first i keys: the value of the last one -/
structure Lms (D : DataW Value) (ts : List ByteArray) (val : Nat → Value) (i : Nat) : Prop where
  map : IsMap D
  has : ∀ a, Maps.has D (ks a) = (lastS ts a i).isSome
  at_ : ∀ a j, lastS ts a i = some j → ∀ zd, D.atKey (ks a) zd = .held (val j)
theorem Lms.nil (ts : List ByteArray) (val : Nat → Value) : Lms (.map []) ts val 0 :=
  ⟨isMap_empty, fun t => by simp [Maps.has, lastS], fun t j h => by cases h⟩
set_option maxRecDepth 100000 in
theorem Lms.put {P : Program} {k : TypeId} (K : Keyed P k) (hk : ∀ a : ByteArray, a.size ≤ maxLen → keyOf P k (.string a) = some (ks a)) {D : DataW Value} {ts : List ByteArray} {val : Nat → Value} {i : Nat} {t : ByteArray} (h : Lms D ts val i) (ht : ts.getD i ByteArray.empty = t) (hs : t.size ≤ maxLen) :
    Lms (D.put (ks t) (.held (val i))) ts val (i + 1) := by
  have kt := K.key (hk t hs)
  have e1 : lastS ts t (i + 1) = some i := by unfold lastS; rw [if_pos ht]
  have e2 : ∀ s, s ≠ t → lastS ts s (i + 1) = lastS ts s i := fun s hs => by
    show (if ts.getD i ByteArray.empty = s then some i else lastS ts s i) = _
    rw [if_neg (by rw [ht]; exact fun e => hs e.symm)]
  refine ⟨h.map.put _ _, fun s => ?_, fun s j hj zd => ?_⟩
  · by_cases e : s = t
    · subst e
      rw [has_put_same h.map kt, e1]
      rfl
    · rw [has_put_other (fun e' => e (ks_inj e')), h.has s, e2 s e]
  · by_cases e : s = t
    · subst e
      rw [e1] at hj
      cases hj
      rw [atKey_put_same h.map kt]
    · rw [e2 s e] at hj
      rw [atKey_put_other (fun e' => e (ks_inj e'))]
      exact h.at_ s j hj zd
theorem keyOf_ks {P : Program} {k : TypeId} (hk : P.underlying k = some .string) (a : ByteArray) (h : a.size ≤ maxLen) : keyOf P k (.string a) = some (ks a) := Go.WideMaps.keyOf_string_mk hk h
end Go.Proofs.YtgollalliomhfaaDoor
