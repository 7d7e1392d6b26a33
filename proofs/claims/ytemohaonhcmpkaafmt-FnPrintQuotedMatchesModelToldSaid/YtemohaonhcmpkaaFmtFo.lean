/-
  The tables of simple folding, as they are laid. No statement of the seat is proved here.
-/
import Derived.Test.YtemohaonhcmpkaaFmtRows
import Derived.Test.YtemohaonhcmpkaaFmtBase
import Derived.Lib.LaidU8T
import Derived.Lib.LaidPrint
import Derived.KernelRfl
import Derived.Deep.Slices
namespace Go.Proofs.YtemohaonhcmpkaaFmt
open Go.RowKit Go.Lib
set_option linter.unusedVariables false
set_option linter.unusedSimpArgs false

def zl : DataW Unit → Int | .lit (.int _ z) => z | _ => 0
def zp : DataW Unit → Int × Int | .agg [a, b] => (zl a, zl b) | _ => (0, 0)
def zsA : List Int := match (Rows.laid_unicode_asciiFold : DataW Unit) with | .agg ds => ds.map zl | _ => []
def zsO : List (Int × Int) := match (Rows.laid_unicode_caseOrbit : DataW Unit) with | .slice ds _ => ds.map zp | _ => []
theorem asciiFold_eq : (Rows.laid_unicode_asciiFold : DataW Unit) = tabData .u16 zsA := by kernel_rfl
theorem caseOrbit_eq : (Rows.laid_unicode_caseOrbit : DataW Unit) = .slice (zsO.map fun x => .agg [.lit (.int .u16 x.1), .lit (.int .u16 x.2)]) [] := by kernel_rfl
theorem zsO_len : zsO.length = 94 := by kernel_rfl
theorem nA : Tryf.prog.globalNamed "unicode.asciiFold" = some 2 := by kernel_rfl
theorem nO : Tryf.prog.globalNamed "unicode.caseOrbit" = some 3 := by kernel_rfl
theorem yA : (Tryf.prog.globals[2]?).map (·.type) = some 83 := by kernel_rfl
theorem yO : (Tryf.prog.globals[3]?).map (·.type) = some 84 := by kernel_rfl
theorem k35 : Tryf.prog.cellsOf 35 = 1 := by kernel_rfl
theorem k83 : Tryf.prog.cellsOf 83 = 128 := by kernel_rfl
theorem k86 : Tryf.prog.cellsOf 86 = 2 := by kernel_rfl
/-- the two tables in memory -/
structure Fold (w : World) (R o cap : Nat) : Prop where
  a : ∀ c, c < 128 → w.cell? ⟨2, c, none⟩ = some (.int .u16 (zsA.getD c 0))
  h : w.cell? ⟨3, 0, none⟩ = some (.slice (some ⟨R, o, none⟩) 94 cap)
  p : ∀ i, i < 94 → w.cell? ⟨R, o + i * 2, none⟩ = some (.int .u16 (zsO.getD i (0, 0)).1) ∧ w.cell? ⟨R, o + i * 2 + 1, none⟩ = some (.int .u16 (zsO.getD i (0, 0)).2)
theorem Fold.below {w w' : World} {R o cap B : Nat} (h : Fold w R o cap) (hb : Below B w w') (h2 : 3 < B) (hR : R < B) : Fold w' R o cap :=
  ⟨fun c hc => (hb.cell (p := ⟨2, c, none⟩) (show 2 < B by omega)).trans (h.a c hc), (hb.cell (p := ⟨3, 0, none⟩) h2).trans h.h, fun i hi => ⟨(hb.cell (p := ⟨R, o + i * 2, none⟩) hR).trans (h.p i hi).1, (hb.cell (p := ⟨R, o + i * 2 + 1, none⟩) hR).trans (h.p i hi).2⟩⟩
theorem fold_of_reads {w : World} (hA : VarReads Tryf.prog w "unicode.asciiFold" Rows.laid_unicode_asciiFold) (hO : VarReads Tryf.prog w "unicode.caseOrbit" Rows.laid_unicode_caseOrbit) : ∃ R o cap, Fold w R o cap := by
  have hA' : ∀ c, c < 128 → w.cell? ⟨2, c, none⟩ = some (.int .u16 (zsA.getD c 0)) := by
    intro c hc
    rw [asciiFold_eq] at hA
    obtain ⟨g, t, cs, fuel, p, hg, hty, hvar, hd⟩ := hA
    obtain rfl := Option.some.inj (nA.symm.trans hg)
    obtain rfl := Option.some.inj (yA.symm.trans hty)
    have hcs := cells_of_tab Tryf.underlying83 Tryf.underlying35 k35 k83 hd
    have hl : zsA.length = 128 := by kernel_rfl
    rw [World.var?_cell hg hvar c, ← Array.getElem?_toList, hcs, List.getElem?_map, List.getElem?_eq_getElem (by omega), Option.map_some]
    simp [List.getD, List.getElem?_eq_getElem (show c < zsA.length by omega)]
  rw [caseOrbit_eq] at hO
  obtain ⟨g, t, cs, fuel, p, hg, hty, hvar, hd⟩ := hO
  obtain rfl := Option.some.inj (nO.symm.trans hg)
  obtain rfl := Option.some.inj (yO.symm.trans hty)
  rcases DataW.trod_slice Tryf.underlying84 hd with ⟨_, hx⟩ | ⟨a, len, cap, el, rs, m, rfl, hcs, hx, _, hlc, _, hel, helem, hsp, _⟩
  · cases hx
  have e0 := congrArg Prod.fst hx
  simp only [DataW.slice.injEq] at e0
  obtain ⟨eE, eR⟩ := e0
  have hlz := zsO_len
  have hlen : len = 94 := by
    have := congrArg List.length eE
    simp at this
    omega
  have hcell : ∀ i, i < 94 → w.cell? (a.add (i * 2)) = some (.int .u16 (zsO.getD i (0, 0)).1) ∧ w.cell? (a.add (i * 2 + 1)) = some (.int .u16 (zsO.getD i (0, 0)).2) := by
    intro i hi
    have h1 := helem i (by omega)
    rw [k86] at h1
    obtain ⟨b, hb⟩ : ∃ b, el[i]? = some b := ⟨el[i]'(by omega), List.getElem?_eq_getElem (by omega)⟩
    rw [hb] at h1
    obtain ⟨ce, hce, hte⟩ := Option.bind_eq_some_iff.1 h1
    have hb1 : b.1 = .agg [.lit (.int .u16 (zsO.getD i (0, 0)).1), .lit (.int .u16 (zsO.getD i (0, 0)).2)] := by
      have := congrArg (·[i]?) eE
      have e2 : zsO.getD i (0, 0) = zsO[i]'(by omega) := by rw [List.getD_eq_getElem?_getD, List.getElem?_eq_getElem (show i < zsO.length by omega)]; rfl
      rw [e2]
      simp [hb, hlz, hi] at this
      exact this.symm
    obtain ⟨b1, b2⟩ := b
    simp only at hb1
    subst hb1
    have hin := ints_of_struct (zs := [(zsO.getD i (0, 0)).1, (zsO.getD i (0, 0)).2]) Tryf.underlying86 (fun j f hj => by
      match j, hj with
      | 0, hj => simp at hj; subst hj; exact ⟨Tryf.underlying35, rfl, k35⟩
      | 1, hj => simp at hj; subst hj; exact ⟨Tryf.underlying35, rfl, k35⟩
      | j + 2, hj => simp at hj) (by rw [k86]; rfl) hte
    obtain ⟨_, hcl, hcc⟩ := World.cells?_some hce
    have g0 := hcc 0 (by omega)
    have g1 := hcc 1 (by omega)
    rw [hin] at g0 g1
    have ea : (a.add (i * 2)).add 0 = a.add (i * 2) := by simp [Addr.add]
    have eb : (a.add (i * 2)).add 1 = a.add (i * 2 + 1) := Go.Deep.add_add ..
    rw [ea] at g0
    rw [eb] at g1
    exact ⟨g0, g1⟩
  obtain ⟨R, o, sR⟩ := a
  obtain rfl : sR = none := by
    have h00 := (hcell 0 (by omega)).1
    have : (Addr.add ⟨R, o, sR⟩ (0 * 2)) = ⟨R, o, sR⟩ := by simp [Addr.add]
    rw [this] at h00
    exact Go.Proofs.cell_spot h00
  have hadd : ∀ k, (Addr.add ⟨R, o, none⟩ k) = ⟨R, o + k, none⟩ := fun k => by unfold Addr.add; split <;> simp_all
  refine ⟨R, o, cap, hA', ?_, fun i hi => ?_⟩
  · rw [World.var?_cell hg hvar 0, ← Array.getElem?_toList, hcs, hlen]
    rfl
  · have h := hcell i hi
    rw [hadd, hadd] at h
    exact h
end Go.Proofs.YtemohaonhcmpkaaFmt
