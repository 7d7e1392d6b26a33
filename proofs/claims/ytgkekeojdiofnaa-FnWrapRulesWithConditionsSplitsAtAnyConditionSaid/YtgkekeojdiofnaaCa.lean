/-
  The conditions that came in. No statement of the seat is proved here.
-/
import Derived.Test.YtgkekeojdiofnaaRows
import Derived.Test.YtgkekeojdiofnaaDp
import Derived.Test.YtgkekeojdiofnaaWr
import Derived.Test.YtgkekeojdiofnaaReg
import Derived.WalkKit
import Derived.ProofKit
import Derived.WalkSpells
import Derived.RegionTactic
import Derived.BigQuiet
import Derived.BigRegion
import Derived.Deep.QuietTactic
import Derived.Deep.RegionWith
import Derived.Deep.LoopGhost
import Derived.Deep.DeepCutAuto
import Derived.Deep.CutBlock
namespace Go.Proofs.Ytgkekeojdiofnaa
open Go.RowKit Go.ChangeShapes Go.WideShapes
set_option linter.unusedVariables false
set_option linter.unusedSimpArgs false

theorem gb_new {w w' : World} {b : Nat} (h : w.grownBy w' (some b)) (hb : w.heap.size ≤ b) : w.grownBy w' none :=
  ⟨h.os, h.tape, h.output, h.size, fun i hi _ => h.block i hi (fun e => by have := Option.some.inj e; omega)⟩
theorem gb_none {w w' : World} {r : Option Nat} (h : w.grownBy w' none) : w.grownBy w' r := ⟨h.os, h.tape, h.output, h.size, fun i hi _ => h.block i hi (by simp)⟩
theorem below_of {w w' : World} (h : w.grownBy w' none) : Below w.heap.size w w' := ⟨h.os, h.tape, h.output, h.size, fun i hi => h.block i hi (by simp)⟩
theorem blk_ne {w : World} {a b : Nat} {t u : TypeId} {cs ds : Array Value} (h : Blk w a t cs) (k : Blk w b u ds) (hne : t ≠ u) : a ≠ b := fun e => by
  unfold Blk at h k
  rw [e, k] at h
  have h3 := Option.some.inj h
  rw [Obj.cells.injEq] at h3
  exact hne h3.2.1.symm
theorem Blk.has {w : World} {S : Nat} {t : TypeId} {cs : Array Value} (h : Blk w S t cs) {i : Nat} (hi : i < cs.size) : ∃ u, w.cell? ⟨S, i, none⟩ = some u := ⟨cs[i], by rw [h.cell, Array.getElem?_eq_getElem hi]⟩
/-- a condition as it came in: its layers, its supports number (any integer) -/
structure Cz where
  ls : List Bool
  sn : Int
instance : Inhabited Cz := ⟨⟨[], 0⟩⟩
def cz (cs : List Cz) (i : Nat) : Cz := cs.getD i default
/-- the two cells of a condition, at offset o of block b -/
structure CAt (w : World) (b o : Nat) (z : Cz) : Prop where
  c0 : ∃ la lc, w.cell? ⟨b, o, none⟩ = some (.slice la z.ls.length lc) ∧ InB w la z.ls
  c1 : w.cell? ⟨b, o + 1, none⟩ = some (.int .i64 z.sn)
theorem CAt.kept {w w' : World} {b o : Nat} {z : Cz} (h : CAt w b o z) (hb : b < w.heap.size) (hl : Below w.heap.size w w') : CAt w' b o z := by
  obtain ⟨la, lc, h1, h2⟩ := h.c0
  exact ⟨⟨la, lc, (hl.cell (p := ⟨b, o, none⟩) hb).trans h1, h2.kept hl⟩, (hl.cell (p := ⟨b, o + 1, none⟩) hb).trans h.c1⟩
def Cs (w : World) (ao : Option Addr) (cs : List Cz) : Prop :=
  cs = [] ∨ ∃ b off, ao = some ⟨b, off, none⟩ ∧ b < w.heap.size ∧ ∀ i, i < cs.length → CAt w b (off + i * 2) (cz cs i)
theorem Cs.kept {w w' : World} {ao : Option Addr} {cs : List Cz} (h : Cs w ao cs) (hb : Below w.heap.size w w') : Cs w' ao cs := by
  rcases h with h | ⟨b, off, h1, h2, h3⟩
  · exact .inl h
  · exact .inr ⟨b, off, h1, Nat.lt_of_lt_of_le h2 hb.size, fun i hi => (h3 i hi).kept h2 hb⟩
theorem Cs.at {w : World} {ao : Option Addr} {cs : List Cz} (h : Cs w ao cs) {i : Nat} (hi : i < cs.length) : ∃ b off, ao = some ⟨b, off, none⟩ ∧ b < w.heap.size ∧ CAt w b (off + i * 2) (cz cs i) := by
  rcases h with h | ⟨b, off, h1, h2, h3⟩
  · subst h; simp at hi
  · exact ⟨b, off, h1, h2, h3 i hi⟩
theorem cz_take (cs : List Cz) (k i : Nat) (h : i < k) : cz (cs.take k) i = cz cs i := by simp [cz, h]
theorem cz_drop (cs : List Cz) (k i : Nat) : cz (cs.drop k) i = cz cs (k + i) := by simp [cz]
theorem Cs.take {w : World} {ao : Option Addr} {cs : List Cz} (h : Cs w ao cs) (k : Nat) : Cs w ao (cs.take k) := by
  rcases h with h | ⟨b, off, h1, h2, h3⟩
  · subst h; exact .inl (by simp)
  · refine .inr ⟨b, off, h1, h2, fun i hi => ?_⟩
    rw [List.length_take] at hi
    rw [cz_take cs k i (by omega)]
    exact h3 i (by omega)
theorem Cs.drop {w : World} {b off : Nat} {cs : List Cz} (h : Cs w (some ⟨b, off, none⟩) cs) (k : Nat) : Cs w (some ⟨b, off + k * 2, none⟩) (cs.drop k) := by
  rcases h with h | ⟨b', off', h1, h2, h3⟩
  · subst h; exact .inl (by simp)
  · cases h1
    refine .inr ⟨b, off + k * 2, rfl, h2, fun i hi => ?_⟩
    rw [List.length_drop] at hi
    rw [cz_drop]
    have := h3 (k + i) (by omega)
    rwa [show off + (k + i) * 2 = off + k * 2 + i * 2 by omega] at this
/-- what the walk is told of the conditions -/
def IsC (w : World) (a : Option Addr) (len cap : Nat) (cs : List Cz) : Prop := cs.length = len ∧ Cs w a cs ∧ len ≤ maxLen ∧ (∀ i, i < cs.length → (cz cs i).ls.length ≤ maxLen) ∧ (a = none → len = 0)
abbrev LC := List Cz
theorem cells37 : Try.prog.cellsOf 37 = 2 := by kernel_rfl
theorem c35 : Try.prog.cellsOf 35 = 1 := by kernel_rfl
theorem c3 : Try.prog.cellsOf 3 = 1 := by kernel_rfl
theorem c4 : Try.prog.cellsOf 4 = 1 := by kernel_rfl
set_option maxRecDepth 100000 in
theorem open_c {H : Type} {enc : TypeId × Value → H} {w : World} {base : Nat} {spare : Nat → Bool} {held : Bool} {fuel : Nat} {a : Option Addr} {len cap : Nat} {x : DataW H × List MemPlace} (h : DataW.trod enc Try.prog w base spare held fuel 22 [.slice a len cap] = some x) :
    ∃ cs : LC, IsC w a len cap cs := by
  rcases open_elems Try.underlying22 Try.underlying37 cells37 h with hcs | ⟨x, l, c, hcs, hl, hm, hel⟩
  · simp at hcs
    obtain ⟨rfl, rfl, rfl⟩ := hcs
    exact ⟨[], rfl, .inl rfl, by simp, fun i hi => by simp at hi, fun _ => rfl⟩
  · simp at hcs
    obtain ⟨rfl, rfl, rfl⟩ := hcs
    have each : ∀ i, i < len → ∃ z : Cz, (∃ la lc, w.cell? (x.add (i * 2)) = some (.slice la z.ls.length lc) ∧ InB w la z.ls) ∧ w.cell? (x.add (i * 2 + 1)) = some (.int .i64 z.sn) ∧ z.ls.length ≤ maxLen := fun i hi => by
      obtain ⟨v0, y0, n0, h0, g0⟩ := hel i hi 0 _ rfl c35 (by decide)
      obtain ⟨v1, y1, n1, h1, g1⟩ := hel i hi 1 _ rfl c3 (by decide)
      obtain ⟨la, ll, lc, bs, rfl, hz1, hz2, hz3⟩ := open_bools Try.underlying35 Try.underlying4 c4 g0
      obtain ⟨a1, e1, _, q1⟩ := DataW.trod_int Try.underlying3 g1
      simp only [List.cons.injEq, and_true] at e1
      subst e1 hz1
      exact ⟨⟨bs, a1⟩, ⟨la, lc, h0, hz2⟩, h1, hz3⟩
    obtain ⟨Z, hZ⟩ := Go.Deep.choose_lt each
    have hln : ((List.range len).map Z).length = len := by simp
    have hat : ∀ i, i < len → cz ((List.range len).map Z) i = Z i := fun i hi => by unfold cz; simp [hi]
    refine ⟨(List.range len).map Z, hln, ?_, by omega, fun i hi => ?_, fun e => by cases e⟩
    · by_cases h0 : len = 0
      · subst h0; exact .inl (by simp)
      · obtain ⟨la, lc, hc, _⟩ := (hZ 0 (by omega)).1
        rw [Nat.zero_mul] at hc
        obtain ⟨b, off, rfl, hadd⟩ := plain_addr hc
        rw [hadd] at hc
        refine .inr ⟨b, off, rfl, World.block_lt_of_cell? w _ hc, fun i hi => ?_⟩
        rw [hln] at hi
        obtain ⟨⟨la, lc, h0, h1⟩, h2, _⟩ := hZ i hi
        rw [hadd] at h0 h2
        rw [hat i hi]
        exact ⟨⟨la, lc, h0, h1⟩, by rw [Nat.add_assoc]; exact h2⟩
    · rw [hln] at hi
      rw [hat i hi]
      exact (hZ i hi).2.2
end Go.Proofs.Ytgkekeojdiofnaa
