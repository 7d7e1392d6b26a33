/-
  A slice of structs that came in, opened to its cells: element i, field j. No statement of the seat is proved here.
-/
import Derived.Test.YtebecbidodnneaaInts
import Derived.Deep.Slices
import Derived.ChangeSame
namespace Go.Proofs.Ytebecbidodnneaa
open Go.RowKit Go.ChangeShapes Go.WideShapes

section
variable {H : Type} {enc : TypeId × Value → H} {P : Program} {w : World} {base : Nat} {spare : Nat → Bool} {held : Bool}
/-- one field of a struct whose reading is told: its cell, its own reading -/
theorem open_field {e : TypeId} {fs : Array Field} {fuel : Nat} {cs : List Value} {x : DataW H × List MemPlace} (he : P.underlying e = some (.struct fs)) (h : DataW.trod enc P w base spare held fuel e cs = some x)
    {j : Nat} {f : Field} (hj : fs[j]? = some f) (h1 : P.cellsOf f.type = 1) (ho : f.offset < P.cellsOf e) : ∃ v y n, cs[f.offset]? = some v ∧ DataW.trod enc P w base spare held n f.type [v] = some y := by
  obtain ⟨xs, n, _, _, hl, hxs, hf⟩ := DataW.trod_struct he h
  have hlt : f.offset < cs.length := by rw [hl]; exact ho
  have hjl : j < xs.length := by rw [hxs]; exact (Array.getElem?_eq_some_iff.1 hj).1
  have h2 := hf j f hj
  rw [h1, List.drop_eq_getElem_cons hlt, List.take_succ_cons, List.take_zero, List.getElem?_eq_getElem hjl] at h2
  exact ⟨_, _, n, List.getElem?_eq_getElem hlt, h2⟩
/-- .. of every element of a slice of structs -/
theorem open_elems {t e : TypeId} {fs : Array Field} {fuel k : Nat} {cs : List Value} {x : DataW H × List MemPlace} (ht : P.underlying t = some (.slice e)) (he : P.underlying e = some (.struct fs)) (hC : P.cellsOf e = k)
    (h : DataW.trod enc P w base spare held fuel t cs = some x) :
    cs = [.slice none 0 0] ∨ ∃ (a : Addr) (len cap : Nat), cs = [.slice (some a) len cap] ∧ len ≤ cap ∧ cap ≤ maxLen ∧
      ∀ i, i < len → ∀ (j : Nat) (f : Field), fs[j]? = some f → P.cellsOf f.type = 1 → f.offset < k → ∃ v y n, w.cell? (a.add (i * k + f.offset)) = some v ∧ DataW.trod enc P w base spare held n f.type [v] = some y := by
  subst hC
  rcases Go.Deep.open_slice ht h with ⟨h0, _⟩ | ⟨a, len, cap, m, n, D, Pl, hcs, _, hl, hm, hmm, _, hi⟩
  · exact .inl h0
  · refine .inr ⟨a, len, cap, hcs, hl, hm, fun i hil j f hj h1 ho => ?_⟩
    obtain ⟨cs', hc, ht'⟩ := hi i (by rw [hmm]; split <;> omega)
    obtain ⟨_, hcl, hat⟩ := World.cells?_some hc
    obtain ⟨v, y, n', hv, hy⟩ := open_field he ht' hj h1 ho
    refine ⟨v, y, n', ?_, hy⟩
    rw [← Go.Deep.add_add, hat _ ho, hv]
/-- an address whose cell is there has no spot -/
theorem plain_addr {a : Addr} {v : Value} (h : w.cell? (a.add 0) = some v) : ∃ b off, a = ⟨b, off, none⟩ ∧ ∀ k, a.add k = ⟨b, off + k, none⟩ := by
  obtain ⟨b, off, spot⟩ := a
  have hs : spot = none := by simpa [Addr.add] using World.cell?_spot h
  subst hs
  exact ⟨b, off, rfl, fun k => by unfold Addr.add; split <;> simp_all⟩
/-- a slice of integers, opened: nil, or a row -/
theorem open_row {t e : TypeId} {k : IntKind} {fuel : Nat} {v : Value} {x : DataW H × List MemPlace} (ht : P.underlying t = some (.slice e)) (he : P.underlying e = some (.int k)) (hc : P.cellsOf e = 1) (h : DataW.trod enc P w base spare held fuel t [v] = some x) :
    ∃ (ao : Option Addr) (len cap : Nat) (zs : List Int), v = .slice ao len cap ∧ zs.length = len ∧ In k w ao zs ∧ len ≤ maxLen ∧ ∀ n ∈ zs, (Lit.int k n).wf = true := by
  rcases open_ints ht he hc h with ⟨hcs, _⟩ | ⟨a, l, c, zs, hcs, _, hl, hm, hz, _, hcell, hwz⟩
  · simp at hcs
    exact ⟨none, 0, 0, [], hcs, rfl, .inl rfl, by simp, by simp⟩
  · simp at hcs
    have hlz : l ≤ zs.length := by rw [hz]; split <;> omega
    have hln : (zs.take l).length = l := by rw [List.length_take]; omega
    refine ⟨some a, l, c, zs.take l, hcs, hln, ?_, by omega, fun n hn => hwz n (List.mem_of_mem_take hn)⟩
    by_cases h0 : l = 0
    · subst h0; exact .inl (by simp)
    · obtain ⟨b, off, rfl, hadd⟩ := plain_addr (hcell 0 (by omega))
      have hb := hcell 0 (by omega)
      rw [hadd] at hb
      refine .inr ⟨b, off, rfl, World.block_lt_of_cell? w _ hb, fun i hi => ?_⟩
      rw [hln] at hi
      have := hcell i (by omega)
      rw [hadd] at this
      rw [this, nth_take zs l i hi]; rfl
/-- a slice of bools, opened -/
def InB (w : World) (ao : Option Addr) (bs : List Bool) : Prop :=
  bs = [] ∨ ∃ b off, ao = some ⟨b, off, none⟩ ∧ b < w.heap.size ∧ ∀ i, i < bs.length → w.cell? ⟨b, off + i, none⟩ = some (.bool (bs.getD i false))
theorem InB.kept {w w' : World} {ao : Option Addr} {bs : List Bool} (h : InB w ao bs) (hb : Below w.heap.size w w') : InB w' ao bs := by
  rcases h with h | ⟨b, off, h1, h2, h3⟩
  · exact .inl h
  · exact .inr ⟨b, off, h1, Nat.lt_of_lt_of_le h2 hb.size, fun i hi => (hb.cell (p := ⟨b, off + i, none⟩) h2).trans (h3 i hi)⟩
theorem InB.at {w : World} {ao : Option Addr} {bs : List Bool} (h : InB w ao bs) {i : Nat} (hi : i < bs.length) :
    ∃ b off, ao = some ⟨b, off, none⟩ ∧ b < w.heap.size ∧ w.cell? ⟨b, off + i, none⟩ = some (.bool (bs.getD i false)) := by
  rcases h with h | ⟨b, off, h1, h2, h3⟩
  · subst h; simp at hi
  · exact ⟨b, off, h1, h2, h3 i hi⟩
theorem open_bools {t e : TypeId} {fuel : Nat} {v : Value} {x : DataW H × List MemPlace} (ht : P.underlying t = some (.slice e)) (he : P.underlying e = some .bool) (hc : P.cellsOf e = 1) (h : DataW.trod enc P w base spare held fuel t [v] = some x) :
    ∃ (ao : Option Addr) (len cap : Nat) (bs : List Bool), v = .slice ao len cap ∧ bs.length = len ∧ InB w ao bs ∧ len ≤ maxLen := by
  rcases Go.Deep.open_slice1 ht hc h with ⟨hcs, _⟩ | ⟨a, l, c, m, n, V, D, Pl, hcs, _, hl, hm, hmm, _, hcell⟩
  · simp at hcs
    exact ⟨none, 0, 0, [], hcs, rfl, .inl rfl, by simp⟩
  · simp at hcs
    have hlm : l ≤ m := by rw [hmm]; split <;> omega
    have each : ∀ i, i < l → ∃ b : Bool, w.cell? (a.add i) = some (.bool b) := fun i hi => by
      obtain ⟨b, h1, _⟩ := DataW.trod_bool he (hcell i (by omega)).2
      simp at h1
      exact ⟨b, by rw [(hcell i (by omega)).1, h1]⟩
    obtain ⟨B, hB⟩ := Go.Deep.choose_lt each
    have hln : ((List.range l).map B).length = l := by simp
    refine ⟨some a, l, c, (List.range l).map B, hcs, hln, ?_, by omega⟩
    by_cases h0 : l = 0
    · subst h0; exact .inl (by simp)
    · obtain ⟨b, off, rfl, hadd⟩ := plain_addr (hB 0 (by omega))
      have hb := hB 0 (by omega)
      rw [hadd] at hb
      refine .inr ⟨b, off, rfl, World.block_lt_of_cell? w _ hb, fun i hi => ?_⟩
      rw [hln] at hi
      have := hB i hi
      rw [hadd] at this
      rw [this]
      simp [hi]
end
end Go.Proofs.Ytebecbidodnneaa
