/-
  Rows in new blocks, as the law's copy lays them. No statement of the seat is proved here.
-/
import Derived.Test.YtebecbidodnneaaMid
import Derived.Test.YtebecbidodnneaaIns
namespace Go.Proofs.Ytebecbidodnneaa
open Go.RowKit
set_option linter.unusedVariables false
set_option linter.unusedSimpArgs false

/-- the blocks of element t are where they were -/
def Kt (t : TypeId) (w w' : World) : Prop := ∀ b cs, Blk w b t cs → Blk w' b t cs
theorem kt_gb {t : TypeId} {w w' : World} (h : w.grownBy w' none) : Kt t w w' := fun b cs k => k.gb h (by simp)
theorem kt_past {t u : TypeId} {w w' : World} {b : Nat} {bs : Array Value} (hb : Blk w b u bs) (h : w.grownBy w' (some b)) (hne : t ≠ u) : Kt t w w' := fun c cs k => k.gb h (fun e => blk_ne k hb hne (Option.some.inj e))
def NR (w : World) (ia : Option Addr) (rz : List Int) : Prop := (ia = none ∧ rz = []) ∨ ∃ b cs, ia = some ⟨b, 0, none⟩ ∧ Blk w b 23 cs ∧ ∀ k, k < rz.length → cs[k]? = some (.int .u32 (nth rz k))
def ND (w : World) (da : Option Addr) (dz : List (Int × Int)) : Prop := (da = none ∧ dz = []) ∨ ∃ b cs, da = some ⟨b, 0, none⟩ ∧ Blk w b 130 cs ∧ ∀ k, k < dz.length → cs[k * 2]? = some (.int .u32 (dp dz k).1) ∧ cs[k * 2 + 1]? = some (.int .u32 (dp dz k).2)
def CRow (cs : Array Value) (r : Rc) (k : Nat) : Prop := cs[k * 3]? = some (.int .i32 r.tg) ∧ cs[k * 3 + 1]? = some (.int .u8 r.kd) ∧ cs[k * 3 + 2]? = some (.bool r.ex)
def NC (w : World) (ra : Option Addr) (rs : List Rc) : Prop := (ra = none ∧ rs = []) ∨ ∃ b cs, ra = some ⟨b, 0, none⟩ ∧ Blk w b 128 cs ∧ ∀ k, k < rs.length → CRow cs (rc rs k) k
def PRow (w : World) (cs : Array Value) (p : Pt) (j : Nat) : Prop := ∃ ia ic da dc, cs[j * 4]? = some (.slice ia p.rz.length ic) ∧ cs[j * 4 + 1]? = some (.slice da p.dz.length dc) ∧ cs[j * 4 + 2]? = some (.bool p.cb) ∧ cs[j * 4 + 3]? = some (.bool p.fb) ∧ NR w ia p.rz ∧ ND w da p.dz
def NP (w : World) (pa : Option Addr) (ps : List Pt) : Prop := (pa = none ∧ ps = []) ∨ ∃ b cs, pa = some ⟨b, 0, none⟩ ∧ Blk w b 126 cs ∧ ∀ j, j < ps.length → PRow w cs (pt ps j) j
def FRw (w : World) (cs : Array Value) (z : Wf) (v : Nat) : Prop := ∃ ra rc pa pc, cs[v * 5]? = some (.int .i32 z.css) ∧ cs[v * 5 + 1]? = some (.bool z.se) ∧ cs[v * 5 + 2]? = some (.bool z.lv) ∧ cs[v * 5 + 3]? = some (.slice ra z.rs.length rc) ∧ cs[v * 5 + 4]? = some (.slice pa z.ps.length pc) ∧ NC w ra z.rs ∧ NP w pa z.ps
section
variable {w w' : World}
theorem NR.kt {ia : Option Addr} {rz : List Int} (h : NR w ia rz) (k : Kt 23 w w') : NR w' ia rz := by
  rcases h with h | ⟨b, cs, h1, h2, h3⟩
  · exact .inl h
  · exact .inr ⟨b, cs, h1, k _ _ h2, h3⟩
theorem ND.kt {da : Option Addr} {dz : List (Int × Int)} (h : ND w da dz) (k : Kt 130 w w') : ND w' da dz := by
  rcases h with h | ⟨b, cs, h1, h2, h3⟩
  · exact .inl h
  · exact .inr ⟨b, cs, h1, k _ _ h2, h3⟩
theorem NC.kt {ra : Option Addr} {rs : List Rc} (h : NC w ra rs) (k : Kt 128 w w') : NC w' ra rs := by
  rcases h with h | ⟨b, cs, h1, h2, h3⟩
  · exact .inl h
  · exact .inr ⟨b, cs, h1, k _ _ h2, h3⟩
theorem PRow.kt {cs : Array Value} {p : Pt} {j : Nat} (h : PRow w cs p j) (k : Kt 23 w w') (k2 : Kt 130 w w') : PRow w' cs p j := by
  obtain ⟨ia, ic, da, dc, h1, h2, h3, h4, h5, h6⟩ := h
  exact ⟨ia, ic, da, dc, h1, h2, h3, h4, h5.kt k, h6.kt k2⟩
theorem NP.kt {pa : Option Addr} {ps : List Pt} (h : NP w pa ps) (k : Kt 23 w w') (k2 : Kt 130 w w') (k3 : Kt 126 w w') : NP w' pa ps := by
  rcases h with h | ⟨b, cs, h1, h2, h3⟩
  · exact .inl h
  · exact .inr ⟨b, cs, h1, k3 _ _ h2, fun j hj => (h3 j hj).kt k k2⟩
theorem FRw.kt {cs : Array Value} {z : Wf} {v : Nat} (h : FRw w cs z v) (k : Kt 23 w w') (k2 : Kt 130 w w') (k3 : Kt 126 w w') (k4 : Kt 128 w w') : FRw w' cs z v := by
  obtain ⟨ra, rc, pa, pc, h1, h2, h3, h4, h5, h6, h7⟩ := h
  exact ⟨ra, rc, pa, pc, h1, h2, h3, h4, h5, h6.kt k4, h7.kt k k2 k3⟩
theorem NR.in_ {ia : Option Addr} {rz : List Int} (h : NR w ia rz) : In .u32 w ia rz := by
  rcases h with ⟨_, h⟩ | ⟨b, cs, h1, h2, h3⟩
  · exact .inl h
  · exact .inr ⟨b, 0, h1, h2.lt, fun i hi => by rw [Nat.zero_add]; exact (h2.cell i).trans (h3 i hi)⟩
theorem ND.in_ {da : Option Addr} {dz : List (Int × Int)} (h : ND w da dz) : InS w da dz 2 DAt := by
  rcases h with ⟨_, h⟩ | ⟨b, cs, h1, h2, h3⟩
  · exact .inl h
  · exact .inr ⟨b, 0, h1, h2.lt, fun i hi => by rw [Nat.zero_add]; exact ⟨(h2.cell _).trans (h3 i hi).1, (h2.cell _).trans (h3 i hi).2⟩⟩
theorem NC.in_ {ra : Option Addr} {rs : List Rc} (h : NC w ra rs) : InS w ra rs 3 RAt := by
  rcases h with ⟨_, h⟩ | ⟨b, cs, h1, h2, h3⟩
  · exact .inl h
  · exact .inr ⟨b, 0, h1, h2.lt, fun i hi => by rw [Nat.zero_add]; exact ⟨(h2.cell _).trans (h3 i hi).1, (h2.cell _).trans (h3 i hi).2.1, (h2.cell _).trans (h3 i hi).2.2⟩⟩
theorem NP.in_ {pa : Option Addr} {ps : List Pt} (h : NP w pa ps) : InS w pa ps 4 PAt := by
  rcases h with ⟨_, h⟩ | ⟨b, cs, h1, h2, h3⟩
  · exact .inl h
  · refine .inr ⟨b, 0, h1, h2.lt, fun i hi => ?_⟩
    rw [Nat.zero_add]
    obtain ⟨ia, ic, da, dc, k1, k2, k3, k4, k5, k6⟩ := h3 i hi
    exact ⟨ia, ic, da, dc, (h2.cell _).trans k1, (h2.cell _).trans k2, (h2.cell _).trans k3, (h2.cell _).trans k4, k5.in_, k6.in_⟩
theorem fs_in {b : Nat} {cs : Array Value} {fs : List Wf} (h2 : Blk w b 64 cs) (h3 : ∀ v, v < fs.length → FRw w cs (wf fs v) v) : InS w (some ⟨b, 0, none⟩) fs 5 FAt := by
  refine .inr ⟨b, 0, rfl, h2.lt, fun i hi => ?_⟩
  rw [Nat.zero_add]
  obtain ⟨ra, rc, pa, pc, k1, k2, k3, k4, k5, k6, k7⟩ := h3 i hi
  exact ⟨ra, rc, pa, pc, (h2.cell _).trans k1, (h2.cell _).trans k2, (h2.cell _).trans k3, (h2.cell _).trans k4, (h2.cell _).trans k5, k6.in_, k7.in_⟩
end
/-- a part's row under way: its two slices are v0 and v1 -/
def Pst (w : World) (T m j : Nat) (ps : List Pt) (v0 v1 : Value) : Prop := ∃ cs, Blk w T 126 cs ∧ cs.size = m * 4 ∧ (∀ v, v < j → PRow w cs (pt ps v) v) ∧ cs[j * 4]? = some v0 ∧ cs[j * 4 + 1]? = some v1 ∧ cs[j * 4 + 2]? = some (.bool (pt ps j).cb) ∧ cs[j * 4 + 3]? = some (.bool (pt ps j).fb)
/-- a file's row under way -/
def Fst (w : World) (F n i : Nat) (fs : List Wf) (v3 v4 : Value) : Prop := ∃ cs, Blk w F 64 cs ∧ cs.size = n * 5 ∧ (∀ v, v < i → FRw w cs (wf fs v) v) ∧ cs[i * 5]? = some (.int .i32 (wf fs i).css) ∧ cs[i * 5 + 1]? = some (.bool (wf fs i).se) ∧ cs[i * 5 + 2]? = some (.bool (wf fs i).lv) ∧ cs[i * 5 + 3]? = some v3 ∧ cs[i * 5 + 4]? = some v4
section
variable {w w' : World}
theorem PRow.cs {cs cs' : Array Value} {p : Pt} {j : Nat} (h : PRow w cs p j) (e : ∀ i, i < 4 → cs'[j * 4 + i]? = cs[j * 4 + i]?) : PRow w cs' p j := by
  obtain ⟨ia, ic, da, dc, h1, h2, h3, h4, h5⟩ := h
  exact ⟨ia, ic, da, dc, (e 0 (by omega)).trans h1, (e 1 (by omega)).trans h2, (e 2 (by omega)).trans h3, (e 3 (by omega)).trans h4, h5⟩
theorem FRw.cs {cs cs' : Array Value} {z : Wf} {v : Nat} (h : FRw w cs z v) (e : ∀ i, i < 5 → cs'[v * 5 + i]? = cs[v * 5 + i]?) : FRw w cs' z v := by
  obtain ⟨ra, rc, pa, pc, h1, h2, h3, h4, h5, h6⟩ := h
  exact ⟨ra, rc, pa, pc, (e 0 (by omega)).trans h1, (e 1 (by omega)).trans h2, (e 2 (by omega)).trans h3, (e 3 (by omega)).trans h4, (e 4 (by omega)).trans h5, h6⟩
variable {T m j F n i : Nat} {ps : List Pt} {fs : List Wf} {v0 v1 : Value}
theorem Pst.gb (h : Pst w T m j ps v0 v1) (hg : w.grownBy w' none) : Pst w' T m j ps v0 v1 := by
  obtain ⟨cs, h1, h2, h3, h4⟩ := h
  exact ⟨cs, h1.gb hg (by simp), h2, fun v hv => (h3 v hv).kt (kt_gb hg) (kt_gb hg), h4⟩
theorem Fst.gb (h : Fst w F n i fs v0 v1) (hg : w.grownBy w' none) : Fst w' F n i fs v0 v1 := by
  obtain ⟨cs, h1, h2, h3, h4⟩ := h
  exact ⟨cs, h1.gb hg (by simp), h2, fun v hv => (h3 v hv).kt (kt_gb hg) (kt_gb hg) (kt_gb hg) (kt_gb hg), h4⟩
theorem Pst.set0 (h : Pst w T m j ps v0 v1) (hj : j < m) (x : Value) : Pst (w.setCell ⟨T, j * 4, none⟩ x) T m j ps x v1 := by
  obtain ⟨cs, h1, h2, h3, h4, h5, h6, h7⟩ := h
  have hg : w.grownBy (w.setCell ⟨T, j * 4, none⟩ x) (some T) := gb_set (gb_refl _ _) _ _ _
  refine ⟨_, h1.set _ x, by simp [h2], fun v hv => ((h3 v hv).kt (kt_past h1 hg (by decide)) (kt_past h1 hg (by decide))).cs (fun i hi => by rw [Array.getElem?_setIfInBounds_ne (by omega)]), Array.getElem?_setIfInBounds_self_of_lt (by omega), ?_, ?_, ?_⟩
  · rw [Array.getElem?_setIfInBounds_ne (by omega)]; exact h5
  · rw [Array.getElem?_setIfInBounds_ne (by omega)]; exact h6
  · rw [Array.getElem?_setIfInBounds_ne (by omega)]; exact h7
theorem Pst.set1 (h : Pst w T m j ps v0 v1) (hj : j < m) (x : Value) : Pst (w.setCell ⟨T, j * 4 + 1, none⟩ x) T m j ps v0 x := by
  obtain ⟨cs, h1, h2, h3, h4, h5, h6, h7⟩ := h
  have hg : w.grownBy (w.setCell ⟨T, j * 4 + 1, none⟩ x) (some T) := gb_set (gb_refl _ _) _ _ _
  refine ⟨_, h1.set _ x, by simp [h2], fun v hv => ((h3 v hv).kt (kt_past h1 hg (by decide)) (kt_past h1 hg (by decide))).cs (fun i hi => by rw [Array.getElem?_setIfInBounds_ne (by omega)]), ?_, Array.getElem?_setIfInBounds_self_of_lt (by omega), ?_, ?_⟩
  · rw [Array.getElem?_setIfInBounds_ne (by omega)]; exact h4
  · rw [Array.getElem?_setIfInBounds_ne (by omega)]; exact h6
  · rw [Array.getElem?_setIfInBounds_ne (by omega)]; exact h7
theorem Fst.set3 (h : Fst w F n i fs v0 v1) (hi : i < n) (x : Value) : Fst (w.setCell ⟨F, i * 5 + 3, none⟩ x) F n i fs x v1 := by
  obtain ⟨cs, h1, h2, h3, h4, h5, h6, h7, h8⟩ := h
  have hg : w.grownBy (w.setCell ⟨F, i * 5 + 3, none⟩ x) (some F) := gb_set (gb_refl _ _) _ _ _
  refine ⟨_, h1.set _ x, by simp [h2], fun v hv => ((h3 v hv).kt (kt_past h1 hg (by decide)) (kt_past h1 hg (by decide)) (kt_past h1 hg (by decide)) (kt_past h1 hg (by decide))).cs (fun i hi => by rw [Array.getElem?_setIfInBounds_ne (by omega)]), ?_, ?_, ?_, Array.getElem?_setIfInBounds_self_of_lt (by omega), ?_⟩
  · rw [Array.getElem?_setIfInBounds_ne (by omega)]; exact h4
  · rw [Array.getElem?_setIfInBounds_ne (by omega)]; exact h5
  · rw [Array.getElem?_setIfInBounds_ne (by omega)]; exact h6
  · rw [Array.getElem?_setIfInBounds_ne (by omega)]; exact h8
theorem Fst.set4 (h : Fst w F n i fs v0 v1) (hi : i < n) (x : Value) : Fst (w.setCell ⟨F, i * 5 + 4, none⟩ x) F n i fs v0 x := by
  obtain ⟨cs, h1, h2, h3, h4, h5, h6, h7, h8⟩ := h
  have hg : w.grownBy (w.setCell ⟨F, i * 5 + 4, none⟩ x) (some F) := gb_set (gb_refl _ _) _ _ _
  refine ⟨_, h1.set _ x, by simp [h2], fun v hv => ((h3 v hv).kt (kt_past h1 hg (by decide)) (kt_past h1 hg (by decide)) (kt_past h1 hg (by decide)) (kt_past h1 hg (by decide))).cs (fun i hi => by rw [Array.getElem?_setIfInBounds_ne (by omega)]), ?_, ?_, ?_, ?_, Array.getElem?_setIfInBounds_self_of_lt (by omega)⟩
  · rw [Array.getElem?_setIfInBounds_ne (by omega)]; exact h4
  · rw [Array.getElem?_setIfInBounds_ne (by omega)]; exact h5
  · rw [Array.getElem?_setIfInBounds_ne (by omega)]; exact h6
  · rw [Array.getElem?_setIfInBounds_ne (by omega)]; exact h7
theorem Pst.done {ia da : Option Addr} {ic dc : Nat} (h : Pst w T m j ps (.slice ia (pt ps j).rz.length ic) (.slice da (pt ps j).dz.length dc)) (h1 : NR w ia (pt ps j).rz) (h2 : ND w da (pt ps j).dz) : ∃ cs, Blk w T 126 cs ∧ cs.size = m * 4 ∧ ∀ v, v < j + 1 → PRow w cs (pt ps v) v := by
  obtain ⟨cs, k1, k2, k3, k4, k5, k6, k7⟩ := h
  refine ⟨cs, k1, k2, fun v hv => ?_⟩
  rcases (show v < j ∨ v = j by omega) with h | rfl
  · exact k3 v h
  · exact ⟨ia, ic, da, dc, k4, k5, k6, k7, h1, h2⟩
theorem Fst.done {ra pa : Option Addr} {rc pc : Nat} (h : Fst w F n i fs (.slice ra (wf fs i).rs.length rc) (.slice pa (wf fs i).ps.length pc)) (h1 : NC w ra (wf fs i).rs) (h2 : NP w pa (wf fs i).ps) : ∃ cs, Blk w F 64 cs ∧ cs.size = n * 5 ∧ ∀ v, v < i + 1 → FRw w cs (wf fs v) v := by
  obtain ⟨cs, k1, k2, k3, k4, k5, k6, k7, k8⟩ := h
  refine ⟨cs, k1, k2, fun v hv => ?_⟩
  rcases (show v < i ∨ v = i by omega) with h | rfl
  · exact k3 v h
  · exact ⟨ra, rc, pa, pc, k4, k5, k6, k7, k8, h1, h2⟩
/-- behind the store of a whole row -/
theorem Pst.start {cs cs' : Array Value} (h1 : Blk w T 126 cs) (h2 : cs.size = m * 4) (h3 : ∀ v, v < j → PRow w cs (pt ps v) v) (h1' : Blk w' T 126 cs') (h2' : cs'.size = cs.size) (ho : ∀ i, i < j * 4 ∨ j * 4 + 4 ≤ i → cs'[i]? = cs[i]?) (hg : w.grownBy w' (some T))
    (e0 : cs'[j * 4]? = some v0) (e1 : cs'[j * 4 + 1]? = some v1) (e2 : cs'[j * 4 + 2]? = some (.bool (pt ps j).cb)) (e3 : cs'[j * 4 + 3]? = some (.bool (pt ps j).fb)) : Pst w' T m j ps v0 v1 :=
  ⟨cs', h1', by rw [h2', h2], fun v hv => ((h3 v hv).kt (kt_past h1 hg (by decide)) (kt_past h1 hg (by decide))).cs (fun i hi => ho _ (.inl (by omega))), e0, e1, e2, e3⟩
theorem Fst.start {cs cs' : Array Value} (h1 : Blk w F 64 cs) (h2 : cs.size = n * 5) (h3 : ∀ v, v < i → FRw w cs (wf fs v) v) (h1' : Blk w' F 64 cs') (h2' : cs'.size = cs.size) (ho : ∀ k, k < i * 5 ∨ i * 5 + 5 ≤ k → cs'[k]? = cs[k]?) (hg : w.grownBy w' (some F))
    (e0 : cs'[i * 5]? = some (.int .i32 (wf fs i).css)) (e1 : cs'[i * 5 + 1]? = some (.bool (wf fs i).se)) (e2 : cs'[i * 5 + 2]? = some (.bool (wf fs i).lv)) (e3 : cs'[i * 5 + 3]? = some v0) (e4 : cs'[i * 5 + 4]? = some v1) : Fst w' F n i fs v0 v1 :=
  ⟨cs', h1', by rw [h2', h2], fun v hv => ((h3 v hv).kt (kt_past h1 hg (by decide)) (kt_past h1 hg (by decide)) (kt_past h1 hg (by decide)) (kt_past h1 hg (by decide))).cs (fun k hk => ho _ (.inl (by omega))), e0, e1, e2, e3, e4⟩
end
end Go.Proofs.Ytebecbidodnneaa
