/-
  The law's copy of its files. No statement of the seat is proved here.
-/
import Derived.Test.YtebecbidodnneaaNw
import Derived.Test.YtebecbidodnneaaZb
namespace Go.Proofs.Ytebecbidodnneaa
open Go.RowKit
set_option linter.unusedVariables false
set_option linter.unusedSimpArgs false

noncomputable def z64 : Array Value := cellsOf ((zeroValue 64).run Try.prog default)
theorem zinfo64 : (Try.prog.info? 64).map (fun i => (i.zero, i.size, i.bytes)) = some (some (.agg z64), 5, 56) := by kernel_rfl
noncomputable def z128 : Array Value := cellsOf ((zeroValue 128).run Try.prog default)
theorem zinfo128 : (Try.prog.info? 128).map (fun i => (i.zero, i.size, i.bytes)) = some (some (.agg z128), 3, 8) := by kernel_rfl
noncomputable def z126 : Array Value := cellsOf ((zeroValue 126).run Try.prog default)
theorem zinfo126 : (Try.prog.info? 126).map (fun i => (i.zero, i.size, i.bytes)) = some (some (.agg z126), 4, 56) := by kernel_rfl
noncomputable def z130 : Array Value := cellsOf ((zeroValue 130).run Try.prog default)
theorem zinfo130 : (Try.prog.info? 130).map (fun i => (i.zero, i.size, i.bytes)) = some (some (.agg z130), 2, 8) := by kernel_rfl
theorem zinfo23 : (Try.prog.info? 23).map (fun i => (i.zero, i.size, i.bytes)) = some (some (.int .u32 0), 1, 4) := by kernel_rfl
theorem inf64 (a b c d e : Value) : (Try.prog.info? 64).map (·.size) = some (#[a, b, c, d, e] : Array Value).size := by kernel_rfl
theorem inf128 (a b c : Value) : (Try.prog.info? 128).map (·.size) = some (#[a, b, c] : Array Value).size := by kernel_rfl
theorem inf126 (a b c d : Value) : (Try.prog.info? 126).map (·.size) = some (#[a, b, c, d] : Array Value).size := by kernel_rfl
theorem inf130 (a b : Value) : (Try.prog.info? 130).map (·.size) = some (#[a, b] : Array Value).size := by kernel_rfl
theorem Fst.hf {w : World} {F n i : Nat} {fs : List Wf} {v0 v1 : Value} (h : Fst w F n i fs v0 v1) : F < w.heap.size ∧ (∃ u, w.cell? ⟨F, i * 5 + 3, none⟩ = some u) ∧ (∃ u, w.cell? ⟨F, i * 5 + 4, none⟩ = some u) ∧ ∀ k, w.frozen? ⟨F, k, none⟩ = false := by
  obtain ⟨cs, h1, h2, h3, h4, h5, h6, h7, h8⟩ := h
  exact ⟨h1.lt, ⟨_, (h1.cell _).trans h7⟩, ⟨_, (h1.cell _).trans h8⟩, fun k => h1.free k⟩
theorem Pst.hf {w : World} {T m j : Nat} {ps : List Pt} {v0 v1 : Value} (h : Pst w T m j ps v0 v1) : T < w.heap.size ∧ (∃ u, w.cell? ⟨T, j * 4, none⟩ = some u) ∧ (∃ u, w.cell? ⟨T, j * 4 + 1, none⟩ = some u) ∧ ∀ k, w.frozen? ⟨T, k, none⟩ = false := by
  obtain ⟨cs, h1, h2, h3, h4, h5, h6, h7⟩ := h
  exact ⟨h1.lt, ⟨_, (h1.cell _).trans h4⟩, ⟨_, (h1.cell _).trans h5⟩, fun k => h1.free k⟩
theorem put2 {w : World} {S : Nat} {t : TypeId} {cs : Array Value} (h : Blk w S t cs) (o : Nat) (ho : o + 2 ≤ cs.size) (v0 : Value) : ∃ u0 u1 : Value, w.cell? ⟨S, o, none⟩ = some u0 ∧ w.frozen? ⟨S, o, none⟩ = false ∧ (w.setCell ⟨S, o, none⟩ v0).cell? ⟨S, o + 1, none⟩ = some u1 ∧ (w.setCell ⟨S, o, none⟩ v0).frozen? ⟨S, o + 1, none⟩ = false := by
  obtain ⟨u0, c0⟩ := h.has (i := o) (by omega)
  have h1 := h.set (o) v0
  obtain ⟨u1, c1⟩ := h1.has (i := o + 1) (by simp; omega)
  exact ⟨u0, u1, c0, h.free _, c1, h1.free _⟩
theorem put3 {w : World} {S : Nat} {t : TypeId} {cs : Array Value} (h : Blk w S t cs) (o : Nat) (ho : o + 3 ≤ cs.size) (v0 v1 : Value) : ∃ u0 u1 u2 : Value, w.cell? ⟨S, o, none⟩ = some u0 ∧ w.frozen? ⟨S, o, none⟩ = false ∧ (w.setCell ⟨S, o, none⟩ v0).cell? ⟨S, o + 1, none⟩ = some u1 ∧ (w.setCell ⟨S, o, none⟩ v0).frozen? ⟨S, o + 1, none⟩ = false ∧ ((w.setCell ⟨S, o, none⟩ v0).setCell ⟨S, o + 1, none⟩ v1).cell? ⟨S, o + 2, none⟩ = some u2 ∧ ((w.setCell ⟨S, o, none⟩ v0).setCell ⟨S, o + 1, none⟩ v1).frozen? ⟨S, o + 2, none⟩ = false := by
  obtain ⟨u0, c0⟩ := h.has (i := o) (by omega)
  have h1 := h.set (o) v0
  obtain ⟨u1, c1⟩ := h1.has (i := o + 1) (by simp; omega)
  have h2 := h1.set (o + 1) v1
  obtain ⟨u2, c2⟩ := h2.has (i := o + 2) (by simp; omega)
  exact ⟨u0, u1, u2, c0, h.free _, c1, h1.free _, c2, h2.free _⟩
theorem put4 {w : World} {S : Nat} {t : TypeId} {cs : Array Value} (h : Blk w S t cs) (o : Nat) (ho : o + 4 ≤ cs.size) (v0 v1 v2 : Value) : ∃ u0 u1 u2 u3 : Value, w.cell? ⟨S, o, none⟩ = some u0 ∧ w.frozen? ⟨S, o, none⟩ = false ∧ (w.setCell ⟨S, o, none⟩ v0).cell? ⟨S, o + 1, none⟩ = some u1 ∧ (w.setCell ⟨S, o, none⟩ v0).frozen? ⟨S, o + 1, none⟩ = false ∧ ((w.setCell ⟨S, o, none⟩ v0).setCell ⟨S, o + 1, none⟩ v1).cell? ⟨S, o + 2, none⟩ = some u2 ∧ ((w.setCell ⟨S, o, none⟩ v0).setCell ⟨S, o + 1, none⟩ v1).frozen? ⟨S, o + 2, none⟩ = false ∧ (((w.setCell ⟨S, o, none⟩ v0).setCell ⟨S, o + 1, none⟩ v1).setCell ⟨S, o + 2, none⟩ v2).cell? ⟨S, o + 3, none⟩ = some u3 ∧ (((w.setCell ⟨S, o, none⟩ v0).setCell ⟨S, o + 1, none⟩ v1).setCell ⟨S, o + 2, none⟩ v2).frozen? ⟨S, o + 3, none⟩ = false := by
  obtain ⟨u0, c0⟩ := h.has (i := o) (by omega)
  have h1 := h.set (o) v0
  obtain ⟨u1, c1⟩ := h1.has (i := o + 1) (by simp; omega)
  have h2 := h1.set (o + 1) v1
  obtain ⟨u2, c2⟩ := h2.has (i := o + 2) (by simp; omega)
  have h3 := h2.set (o + 2) v2
  obtain ⟨u3, c3⟩ := h3.has (i := o + 3) (by simp; omega)
  exact ⟨u0, u1, u2, u3, c0, h.free _, c1, h1.free _, c2, h2.free _, c3, h3.free _⟩
theorem put5 {w : World} {S : Nat} {t : TypeId} {cs : Array Value} (h : Blk w S t cs) (o : Nat) (ho : o + 5 ≤ cs.size) (v0 v1 v2 v3 : Value) : ∃ u0 u1 u2 u3 u4 : Value, w.cell? ⟨S, o, none⟩ = some u0 ∧ w.frozen? ⟨S, o, none⟩ = false ∧ (w.setCell ⟨S, o, none⟩ v0).cell? ⟨S, o + 1, none⟩ = some u1 ∧ (w.setCell ⟨S, o, none⟩ v0).frozen? ⟨S, o + 1, none⟩ = false ∧ ((w.setCell ⟨S, o, none⟩ v0).setCell ⟨S, o + 1, none⟩ v1).cell? ⟨S, o + 2, none⟩ = some u2 ∧ ((w.setCell ⟨S, o, none⟩ v0).setCell ⟨S, o + 1, none⟩ v1).frozen? ⟨S, o + 2, none⟩ = false ∧ (((w.setCell ⟨S, o, none⟩ v0).setCell ⟨S, o + 1, none⟩ v1).setCell ⟨S, o + 2, none⟩ v2).cell? ⟨S, o + 3, none⟩ = some u3 ∧ (((w.setCell ⟨S, o, none⟩ v0).setCell ⟨S, o + 1, none⟩ v1).setCell ⟨S, o + 2, none⟩ v2).frozen? ⟨S, o + 3, none⟩ = false ∧ ((((w.setCell ⟨S, o, none⟩ v0).setCell ⟨S, o + 1, none⟩ v1).setCell ⟨S, o + 2, none⟩ v2).setCell ⟨S, o + 3, none⟩ v3).cell? ⟨S, o + 4, none⟩ = some u4 ∧ ((((w.setCell ⟨S, o, none⟩ v0).setCell ⟨S, o + 1, none⟩ v1).setCell ⟨S, o + 2, none⟩ v2).setCell ⟨S, o + 3, none⟩ v3).frozen? ⟨S, o + 4, none⟩ = false := by
  obtain ⟨u0, c0⟩ := h.has (i := o) (by omega)
  have h1 := h.set (o) v0
  obtain ⟨u1, c1⟩ := h1.has (i := o + 1) (by simp; omega)
  have h2 := h1.set (o + 1) v1
  obtain ⟨u2, c2⟩ := h2.has (i := o + 2) (by simp; omega)
  have h3 := h2.set (o + 2) v2
  obtain ⟨u3, c3⟩ := h3.has (i := o + 3) (by simp; omega)
  have h4 := h3.set (o + 3) v3
  obtain ⟨u4, c4⟩ := h4.has (i := o + 4) (by simp; omega)
  exact ⟨u0, u1, u2, u3, u4, c0, h.free _, c1, h1.free _, c2, h2.free _, c3, h3.free _, c4, h4.free _⟩
/-- copies of a row of records, numbers, pairs, under way -/
def Cpc (w wx : World) (b m k : Nat) (rs : List Rc) : Prop := (∃ cs, Blk wx b 128 cs ∧ cs.size = m * 3 ∧ ∀ v, v < k → CRow cs (rc rs v) v) ∧ w.grownBy wx none
def Cpr (w wx : World) (b m k : Nat) (rz : List Int) : Prop := (∃ cs, Blk wx b 23 cs ∧ cs.size = m ∧ ∀ v, v < k → cs[v]? = some (.int .u32 (nth rz v))) ∧ w.grownBy wx none
def Cpd (w wx : World) (b m k : Nat) (dz : List (Int × Int)) : Prop := (∃ cs, Blk wx b 130 cs ∧ cs.size = m * 2 ∧ ∀ v, v < k → cs[v * 2]? = some (.int .u32 (dp dz v).1) ∧ cs[v * 2 + 1]? = some (.int .u32 (dp dz v).2)) ∧ w.grownBy wx none
theorem Cpc.next {w wx wy : World} {b m k : Nat} {rs : List Rc} {cs cs' : Array Value} (h2 : cs.size = m * 3) (h3 : ∀ v, v < k → CRow cs (rc rs v) v) (hg : w.grownBy wx none) (hb : w.heap.size ≤ b) (h1' : Blk wy b 128 cs') (h2' : cs'.size = cs.size) (ho : ∀ i, i < k * 3 ∨ k * 3 + 3 ≤ i → cs'[i]? = cs[i]?)
    (hk : CRow cs' (rc rs k) k) (hg' : wx.grownBy wy (some b)) : Cpc w wy b m (k + 1) rs := by
  refine ⟨⟨cs', h1', by rw [h2', h2], fun v hv => ?_⟩, gb_new (gb_trans (gb_none hg) hg') hb⟩
  rcases (show v < k ∨ v = k by omega) with h | rfl
  · obtain ⟨e1, e2, e3⟩ := h3 v h
    exact ⟨by rw [ho _ (.inl (by omega))]; exact e1, by rw [ho _ (.inl (by omega))]; exact e2, by rw [ho _ (.inl (by omega))]; exact e3⟩
  · exact hk
theorem Cpd.next {w wx wy : World} {b m k : Nat} {dz : List (Int × Int)} {cs cs' : Array Value} (h2 : cs.size = m * 2) (h3 : ∀ v, v < k → cs[v * 2]? = some (.int .u32 (dp dz v).1) ∧ cs[v * 2 + 1]? = some (.int .u32 (dp dz v).2)) (hg : w.grownBy wx none) (hb : w.heap.size ≤ b) (h1' : Blk wy b 130 cs') (h2' : cs'.size = cs.size) (ho : ∀ i, i < k * 2 ∨ k * 2 + 2 ≤ i → cs'[i]? = cs[i]?)
    (hk : cs'[k * 2]? = some (.int .u32 (dp dz k).1) ∧ cs'[k * 2 + 1]? = some (.int .u32 (dp dz k).2)) (hg' : wx.grownBy wy (some b)) : Cpd w wy b m (k + 1) dz := by
  refine ⟨⟨cs', h1', by rw [h2', h2], fun v hv => ?_⟩, gb_new (gb_trans (gb_none hg) hg') hb⟩
  rcases (show v < k ∨ v = k by omega) with h | rfl
  · obtain ⟨e1, e2⟩ := h3 v h
    exact ⟨by rw [ho _ (.inl (by omega))]; exact e1, by rw [ho _ (.inl (by omega))]; exact e2⟩
  · exact hk
theorem Cpr.next {w wx : World} {b m k : Nat} {rz : List Int} (h : Cpr w wx b m k rz) (hk : k < m) (hb : w.heap.size ≤ b) : Cpr w (wx.setCell ⟨b, k, none⟩ (.int .u32 (nth rz k))) b m (k + 1) rz := by
  obtain ⟨⟨cs, h1, h2, h3⟩, hg⟩ := h
  refine ⟨⟨_, h1.set k _, by simp [h2], fun v hv => ?_⟩, gb_new (gb_trans (gb_none hg) (gb_set (gb_refl wx (some b)) _ _ _)) hb⟩
  rcases (show v < k ∨ v = k by omega) with h | rfl
  · rw [Array.getElem?_setIfInBounds_ne (by omega)]; exact h3 v h
  · exact Array.getElem?_setIfInBounds_self_of_lt (by omega)
theorem Cpc.nc {w wx : World} {b m : Nat} {rs : List Rc} (h : Cpc w wx b m m rs) (hm : rs.length = m) : NC wx (some ⟨b, 0, none⟩) rs := by
  obtain ⟨⟨cs, h1, h2, h3⟩, _⟩ := h
  exact .inr ⟨b, cs, rfl, h1, fun k hk => h3 k (by omega)⟩
theorem Cpr.nr {w wx : World} {b m : Nat} {rz : List Int} (h : Cpr w wx b m m rz) (hm : rz.length = m) : NR wx (some ⟨b, 0, none⟩) rz := by
  obtain ⟨⟨cs, h1, h2, h3⟩, _⟩ := h
  exact .inr ⟨b, cs, rfl, h1, fun k hk => h3 k (by omega)⟩
theorem Cpd.nd {w wx : World} {b m : Nat} {dz : List (Int × Int)} (h : Cpd w wx b m m dz) (hm : dz.length = m) : ND wx (some ⟨b, 0, none⟩) dz := by
  obtain ⟨⟨cs, h1, h2, h3⟩, _⟩ := h
  exact .inr ⟨b, cs, rfl, h1, fun k hk => h3 k (by omega)⟩
/-- the copy, i files done -/
def Cq (w wx : World) (F n i : Nat) (fs : List Wf) : Prop := (∃ cs, Blk wx F 64 cs ∧ cs.size = n * 5 ∧ ∀ v, v < i → FRw wx cs (wf fs v) v) ∧ w.grownBy wx none
/-- a file under way: its copy at block Q -/
def Cf (w wx : World) (F n i : Nat) (fs : List Wf) (Q : Nat) (qs : Array Value) (v3 v4 : Value) : Prop := Fst wx F n i fs v3 v4 ∧ Blk wx Q 64 qs ∧ w.grownBy wx none
/-- the parts, j of them done -/
def Cg (w wx : World) (T m j : Nat) (ps : List Pt) : Prop := (∃ cs, Blk wx T 126 cs ∧ cs.size = m * 4 ∧ ∀ v, v < j → PRow wx cs (pt ps v) v) ∧ w.grownBy wx none
def Ch (w wx : World) (T m j : Nat) (ps : List Pt) (Q : Nat) (qs : Array Value) (v0 v1 : Value) : Prop := Pst wx T m j ps v0 v1 ∧ Blk wx Q 126 qs ∧ w.grownBy wx none
theorem Cf.gb {w wx wy : World} {F n i Q : Nat} {fs : List Wf} {qs : Array Value} {v3 v4 : Value} (h : Cf w wx F n i fs Q qs v3 v4) (hg : wx.grownBy wy none) : Cf w wy F n i fs Q qs v3 v4 := ⟨h.1.gb hg, h.2.1.gb hg (by simp), gb_trans h.2.2 hg⟩
theorem Ch.gb {w wx wy : World} {F n i Q : Nat} {fs : List Pt} {qs : Array Value} {v3 v4 : Value} (h : Ch w wx F n i fs Q qs v3 v4) (hg : wx.grownBy wy none) : Ch w wy F n i fs Q qs v3 v4 := ⟨h.1.gb hg, h.2.1.gb hg (by simp), gb_trans h.2.2 hg⟩
theorem Cf.set3 {w wx : World} {F n i Q : Nat} {fs : List Wf} {qs : Array Value} {v3 v4 : Value} (h : Cf w wx F n i fs Q qs v3 v4) (hi : i < n) (hQ : Q ≠ F) (hF : w.heap.size ≤ F) (x : Value) : Cf w (wx.setCell ⟨F, i * 5 + 3, none⟩ x) F n i fs Q qs x v4 :=
  ⟨h.1.set3 hi x, h.2.1.gb (gb_set (gb_refl _ _) _ _ _) (fun e => hQ (Option.some.inj e)), gb_new (gb_trans (gb_none h.2.2) (gb_set (gb_refl wx (some F)) _ _ _)) hF⟩
theorem Cf.set4 {w wx : World} {F n i Q : Nat} {fs : List Wf} {qs : Array Value} {v3 v4 : Value} (h : Cf w wx F n i fs Q qs v3 v4) (hi : i < n) (hQ : Q ≠ F) (hF : w.heap.size ≤ F) (x : Value) : Cf w (wx.setCell ⟨F, i * 5 + 4, none⟩ x) F n i fs Q qs v3 x :=
  ⟨h.1.set4 hi x, h.2.1.gb (gb_set (gb_refl _ _) _ _ _) (fun e => hQ (Option.some.inj e)), gb_new (gb_trans (gb_none h.2.2) (gb_set (gb_refl wx (some F)) _ _ _)) hF⟩
theorem Ch.set0 {w wx : World} {F n i Q : Nat} {fs : List Pt} {qs : Array Value} {v3 v4 : Value} (h : Ch w wx F n i fs Q qs v3 v4) (hi : i < n) (hQ : Q ≠ F) (hF : w.heap.size ≤ F) (x : Value) : Ch w (wx.setCell ⟨F, i * 4, none⟩ x) F n i fs Q qs x v4 :=
  ⟨h.1.set0 hi x, h.2.1.gb (gb_set (gb_refl _ _) _ _ _) (fun e => hQ (Option.some.inj e)), gb_new (gb_trans (gb_none h.2.2) (gb_set (gb_refl wx (some F)) _ _ _)) hF⟩
theorem Ch.set1 {w wx : World} {F n i Q : Nat} {fs : List Pt} {qs : Array Value} {v3 v4 : Value} (h : Ch w wx F n i fs Q qs v3 v4) (hi : i < n) (hQ : Q ≠ F) (hF : w.heap.size ≤ F) (x : Value) : Ch w (wx.setCell ⟨F, i * 4 + 1, none⟩ x) F n i fs Q qs v3 x :=
  ⟨h.1.set1 hi x, h.2.1.gb (gb_set (gb_refl _ _) _ _ _) (fun e => hQ (Option.some.inj e)), gb_new (gb_trans (gb_none h.2.2) (gb_set (gb_refl wx (some F)) _ _ _)) hF⟩
theorem Cf.close {w wx : World} {F n i Q : Nat} {fs : List Wf} {qs : Array Value} {z : Wf} {m1 m2 : Nat} (hz : wf fs i = z) (h1 : z.rs.length = m1) (h2 : z.ps.length = m2)
    (h : ∃ ra' rc2 pa' pc2, Cf w wx F n i fs Q qs (.slice ra' m1 rc2) (.slice pa' m2 pc2) ∧ NC wx ra' z.rs ∧ NP wx pa' z.ps) : Cq w wx F n (i + 1) fs := by
  obtain ⟨ra, rc, pa, pc, k1, k2, k3⟩ := h
  subst hz h1 h2
  exact ⟨Fst.done k1.1 k2 k3, k1.2.2⟩
theorem Ch.close {w wx : World} {T m j Q : Nat} {ps : List Pt} {qs : Array Value} {p : Pt} {m1 m2 : Nat} (hz : pt ps j = p) (h1 : p.rz.length = m1) (h2 : p.dz.length = m2)
    (h : ∃ ia' ic2 da' dc2, Ch w wx T m j ps Q qs (.slice ia' m1 ic2) (.slice da' m2 dc2) ∧ NR wx ia' p.rz ∧ ND wx da' p.dz) : Cg w wx T m (j + 1) ps := by
  obtain ⟨ra, rc, pa, pc, k1, k2, k3⟩ := h
  subst hz h1 h2
  exact ⟨Pst.done k1.1 k2 k3, k1.2.2⟩
end Go.Proofs.Ytebecbidodnneaa
