/-
  The tables of line offsets as a reader sees them. No statement of the seat is proved here.
-/
import Derived.Test.YtfbeeekakfllpaaDoorPo
import Derived.Test.YtfbeeekakfllpaaDoorGlot
import Derived.Test.YtfbeeekakfllpaaDoorStp
namespace Go.Proofs.YtfbeeekakfllpaaDoor
open Go.RowKit Go.Maps
set_option linter.unusedVariables false
set_option linter.unusedSimpArgs false
/-- the tables as a reader sees them, all below B2 -/
def LtAt (s : ByteArray) (w : World) (tg B2 : Nat) : Prop := tg < B2 ∧ tg < w.heap.size ∧ ∀ k, (h : k < (lns s).length) → ∃ (cao : Option Addr) (cn ccap f : Nat) (c : Option (List Int)), w.cell? ⟨tg, k * 3, none⟩ = some (.slice cao cn ccap) ∧ w.cell? ⟨tg, k * 3 + 1, none⟩ = some (.int .i32 f) ∧ w.cell? ⟨tg, k * 3 + 2, none⟩ = some (.int .i32 ((lns s)[k]'h).1) ∧ Entry s ((lns s)[k]'h).1 ((lns s)[k]'h).2 c f ∧ ((c = none ∧ cao = none ∧ cn = 0 ∧ ccap = 0) ∨ ∃ zs hg, c = some zs ∧ cao = some ⟨hg, 0, none⟩ ∧ cn = zs.length ∧ hg < B2 ∧ hg < w.heap.size ∧ ∀ i, i < zs.length → w.cell? ⟨hg, i, none⟩ = some (.int .i32 (nth zs i)))
theorem LtAt.below {s : ByteArray} {w w' : World} {tg B2 : Nat} (h : LtAt s w tg B2) (hb : Below B2 w w') (hB : B2 ≤ w.heap.size) : LtAt s w' tg B2 := by
  have hs := hb.size
  refine ⟨h.1, Nat.lt_of_lt_of_le h.2.1 hs, fun k hk => ?_⟩
  obtain ⟨cao, cn, ccap, f, c, h1, h2, h3, h4, h5⟩ := h.2.2 k hk
  refine ⟨cao, cn, ccap, f, c, (hb.cell (p := ⟨tg, k * 3, none⟩) h.1).trans h1, (hb.cell (p := ⟨tg, k * 3 + 1, none⟩) h.1).trans h2, (hb.cell (p := ⟨tg, k * 3 + 2, none⟩) h.1).trans h3, h4, ?_⟩
  rcases h5 with h5 | ⟨zs, hg, a1, a2, a3, a4, a5, a6⟩
  · exact .inl h5
  · exact .inr ⟨zs, hg, a1, a2, a3, a4, Nat.lt_of_lt_of_le a5 hs, fun i hi => (hb.cell (p := ⟨hg, i, none⟩) a4).trans (a6 i hi)⟩
theorem OwnB.ownT {w : World} {B : Nat} {v : Value} {ts : List Tb} (h : OwnB w B v ts) : OwnT 87 3 w B v (ts.map Tb.cells) :=
  ⟨by have h' : w.ownsRow B 87 3 v ts.length (tbRow ts) := h
      rw [List.length_map]
      have e : (ts.map Tb.cells).flatten = tbRow ts := by unfold tbRow; rw [List.flatMap_def]
      rw [e]; exact h', fun r hr => by
    obtain ⟨t, _, rfl⟩ := List.mem_map.1 hr
    rfl⟩
/-- what GenerateLineOffsetTables leaves, read -/
theorem ltat_of {s : ByteArray} {w : World} {B B2 : Nat} {v : Value} {ts : List Tb} (h : OwnB w B v ts) (ht : Tabs s w B B2 ts (lns s)) (hB : ∀ g, v.ownBlock = some g → g < B2) : ∃ tg cap, v = .slice (some ⟨tg, 0, none⟩) (lns s).length cap ∧ LtAt s w tg B2 := by
  have hl := ht.1
  have hp : 0 < (lns s).length := by unfold lns; simp
  have hT := h.ownT
  obtain ⟨tg, cap, hv, hBg, hgl, _⟩ := hT.at 0 (by rw [List.length_map]; omega)
  rw [List.length_map, hl] at hv
  refine ⟨tg, cap, hv, hB tg (by rw [hv]; rfl), hgl, fun k hk => ?_⟩
  obtain ⟨hst, c, hsl, hen, hlt⟩ := ht.2 k (by omega) hk
  obtain ⟨g', cap', hv', _, _, hc, _⟩ := hT.at k (by rw [List.length_map]; omega)
  rw [hv] at hv'
  injection hv' with e1 e2 e3
  injection e1 with e1
  injection e1 with e1
  subst e1
  have hk' : k < ts.length := by omega
  refine ⟨(ts[k]'hk').ao, (ts[k]'hk').n, (ts[k]'hk').cap, (ts[k]'hk').f, c, ?_, ?_, ?_, hen, ?_⟩
  · have := hc 0 (by omega); simpa [Tb.cells] using this
  · have := hc 1 (by omega); simpa [Tb.cells] using this
  · have := hc 2 (by omega); rw [← hst]; simpa [Tb.cells] using this
  · rcases hsl with ⟨h1, h2⟩ | ⟨zs, h1, h2, g2, h3⟩
    · have h2' : Value.slice (ts[k]'hk').ao (ts[k]'hk').n (ts[k]'hk').cap = .slice none 0 0 := h2
      injection h2' with a1 a2 a3
      exact .inl ⟨h1, a1, a2, a3⟩
    · obtain ⟨ao, cp, hf, hin, _, hz⟩ := h2.form
      have hf' : Value.slice (ts[k]'hk').ao (ts[k]'hk').n (ts[k]'hk').cap = .slice ao zs.length cp := hf
      injection hf' with a1 a2 a3
      rcases hz with ⟨rfl, _, _⟩ | ⟨hg, rfl, hg1, hg2⟩
      · rw [hf] at h3; cases h3
      · refine .inr ⟨zs, hg, h1, a1, a2, hlt hg (by rw [hf]; rfl), hg2, fun i hi => ?_⟩
        obtain ⟨b, off, hx, _, hcell⟩ := hin.at hi
        cases hx
        simpa using hcell
end Go.Proofs.YtfbeeekakfllpaaDoor
