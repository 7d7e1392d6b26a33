/-
  What lkB1Build lays: its states. No statement of the seat is proved here.
-/
import Derived.Test.YtebecbidodnneaaJf
import Derived.Test.YtebecbidodnneaaCl
namespace Go.Proofs.Ytebecbidodnneaa
open Go.RowKit
set_option linter.unusedVariables false
set_option linter.unusedSimpArgs false

noncomputable def z138 : Array Value := cellsOf ((zeroValue 138).run Try.prog default)
theorem zinfo138 : (Try.prog.info? 138).map (fun i => (i.zero, i.size, i.bytes)) = some (some (.agg z138), 15, 112) := by kernel_rfl
theorem z138_size : z138.size = 15 := by kernel_rfl
theorem z138_10 : z138[10]? = some (.int .u32 0) := by kernel_rfl
theorem z138_12 : z138[12]? = some (.int .u16 0) := by kernel_rfl
noncomputable def z60 : Array Value := cellsOf ((zeroValue 60).run Try.prog default)
theorem zinfo60 : (Try.prog.info? 60).map (fun i => (i.zero, i.size, i.bytes)) = some (some (.agg z60), 24, 280) := by kernel_rfl
theorem zinfo123 : (Try.prog.info? 123).map (fun i => (i.zero, i.size, i.bytes)) = some (some (.pointer none), 1, 8) := by kernel_rfl
def zrP : List Value := [.slice none 0 0, .slice none 0 0, .slice none 0 0, .slice none 0 0, .map none, .map none, .map none, .slice none 0 0, .bool false, .bool false, .bool false]
noncomputable def z74 : Array Value := zrP.toArray
theorem zinfo74 : (Try.prog.info? 74).map (fun i => (i.zero, i.size, i.bytes)) = some (some (.agg z74), 11, 152) := by kernel_rfl
noncomputable def z141 : Array Value := cellsOf ((zeroValue 141).run Try.prog default)
theorem zinfo141 : (Try.prog.info? 141).map (fun i => (i.zero, i.size, i.bytes)) = some (some (.agg z141), 2, 8) := by kernel_rfl
noncomputable def zjs : Array Value := cellsOf ((Instr.build 122 #[]).run Try.prog default)
theorem build122 (w : World) : (Instr.build 122 #[]).run Try.prog w = .ok (.agg zjs) w := by kernel_rfl
theorem zjs_size : zjs.size = 64 := by kernel_rfl
theorem zjs63 : zjs[63]? = some (.int .u32 0) := by kernel_rfl
/-- a made row of rows: place i of row j -/
theorem made_at (z : Value) (m n j i : Nat) (hm : z.cells.size = m) (hj : j < n) (hi : i < m) : (madeCells z.cells (n * m))[j * m + i]? = z.cells[i]? := by
  subst hm
  have hlt : j * z.cells.size + i < n * z.cells.size := by
    have h1 : (j + 1) * z.cells.size ≤ n * z.cells.size := Nat.mul_le_mul_right _ hj
    rw [Nat.add_mul] at h1
    omega
  have e : (j * z.cells.size + i) % z.cells.size = i := by rw [Nat.add_comm, Nat.add_mul_mod_self_right, Nat.mod_eq_of_lt hi]
  rw [Array.getElem?_eq_getElem (by simpa [madeCells] using hlt), Array.getElem?_eq_getElem hi]
  simp [madeCells, e]
  exact getElem!_pos z.cells i hi
section
variable {w wx wy : World}
/-- the records, k of them done -/
def Rs (w wx : World) (R m k : Nat) (rs : List Rc) : Prop := (∃ cs, Blk wx R 138 cs ∧ cs.size = m * 15 ∧ (∀ v, v < k → RRow cs (rc rs v) v) ∧ ∀ v, k ≤ v → v < m → cs[v * 15 + 10]? = some (.int .u32 0) ∧ cs[v * 15 + 12]? = some (.int .u16 0)) ∧ w.grownBy wx none
/-- the record k under way; its copy at block Q -/
def Rt (w wx : World) (R m k : Nat) (rs : List Rc) (Q : Nat) (qs : Array Value) (x10 x12 : Int) : Prop :=
  (∃ cs, Blk wx R 138 cs ∧ cs.size = m * 15 ∧ (∀ v, v < k → RRow cs (rc rs v) v) ∧ (∀ v, k < v → v < m → cs[v * 15 + 10]? = some (.int .u32 0) ∧ cs[v * 15 + 12]? = some (.int .u16 0)) ∧ cs[k * 15 + 10]? = some (.int .u32 x10) ∧ cs[k * 15 + 12]? = some (.int .u16 x12) ∧ cs[k * 15 + 14]? = some (.int .u8 (rc rs k).kd)) ∧
  Blk wx Q 128 qs ∧ w.grownBy wx none
variable {R m k Q : Nat} {rs : List Rc} {qs : Array Value} {x10 x12 : Int}
theorem Rs.gb (h : Rs w wx R m k rs) (hg : wx.grownBy wy none) : Rs w wy R m k rs := by
  obtain ⟨⟨cs, h1, h2⟩, h3⟩ := h
  exact ⟨⟨cs, h1.gb hg (by simp), h2⟩, gb_trans h3 hg⟩
theorem Rt.gb (h : Rt w wx R m k rs Q qs x10 x12) (hg : wx.grownBy wy none) : Rt w wy R m k rs Q qs x10 x12 := by
  obtain ⟨⟨cs, h1, h2⟩, h3, h4⟩ := h
  exact ⟨⟨cs, h1.gb hg (by simp), h2⟩, h3.gb hg (by simp), gb_trans h4 hg⟩
theorem RRow.cs {cs cs' : Array Value} {r : Rc} {v : Nat} (h : RRow cs r v) (e : ∀ i, i < 15 → cs'[v * 15 + i]? = cs[v * 15 + i]?) : RRow cs' r v := ⟨(e 10 (by omega)).trans h.1, (e 12 (by omega)).trans h.2.1, (e 14 (by omega)).trans h.2.2⟩
theorem Rs.kind (h : Rs w wx R m k rs) (hk : k < m) (hR : w.heap.size ≤ R) (hq : Blk wx Q 128 qs) : Rt w (wx.setCell ⟨R, k * 15 + 14, none⟩ (.int .u8 (rc rs k).kd)) R m k rs Q qs 0 0 := by
  obtain ⟨⟨cs, h1, h2, h3, h4⟩, h5⟩ := h
  have hg : wx.grownBy (wx.setCell ⟨R, k * 15 + 14, none⟩ (.int .u8 (rc rs k).kd)) (some R) := gb_set (gb_refl _ _) _ _ _
  refine ⟨⟨_, h1.set _ _, by simp [h2], fun v hv => (h3 v hv).cs (fun i hi => by rw [Array.getElem?_setIfInBounds_ne (by omega)]), fun v hv hm => ?_, ?_, ?_, Array.getElem?_setIfInBounds_self_of_lt (by omega)⟩, kt_past h1 hg (by decide) _ _ hq, gb_new (gb_trans (gb_none h5) hg) hR⟩
  · rw [Array.getElem?_setIfInBounds_ne (by omega), Array.getElem?_setIfInBounds_ne (by omega)]; exact h4 v (by omega) hm
  · rw [Array.getElem?_setIfInBounds_ne (by omega)]; exact (h4 k (by omega) hk).1
  · rw [Array.getElem?_setIfInBounds_ne (by omega)]; exact (h4 k (by omega) hk).2
theorem Rt.set10 (h : Rt w wx R m k rs Q qs x10 x12) (hk : k < m) (hR : w.heap.size ≤ R) (x : Int) : Rt w (wx.setCell ⟨R, k * 15 + 10, none⟩ (.int .u32 x)) R m k rs Q qs x x12 := by
  obtain ⟨⟨cs, h1, h2, h3, h4, h5, h6, h7⟩, h8, h9⟩ := h
  have hg : wx.grownBy (wx.setCell ⟨R, k * 15 + 10, none⟩ (.int .u32 x)) (some R) := gb_set (gb_refl _ _) _ _ _
  refine ⟨⟨_, h1.set _ _, by simp [h2], fun v hv => (h3 v hv).cs (fun i hi => by rw [Array.getElem?_setIfInBounds_ne (by omega)]), fun v hv hm => ?_, Array.getElem?_setIfInBounds_self_of_lt (by omega), ?_, ?_⟩, kt_past h1 hg (by decide) _ _ h8, gb_new (gb_trans (gb_none h9) hg) hR⟩
  · rw [Array.getElem?_setIfInBounds_ne (by omega), Array.getElem?_setIfInBounds_ne (by omega)]; exact h4 v hv hm
  · rw [Array.getElem?_setIfInBounds_ne (by omega)]; exact h6
  · rw [Array.getElem?_setIfInBounds_ne (by omega)]; exact h7
theorem Rt.set12 (h : Rt w wx R m k rs Q qs x10 x12) (hk : k < m) (hR : w.heap.size ≤ R) (x : Int) : Rt w (wx.setCell ⟨R, k * 15 + 12, none⟩ (.int .u16 x)) R m k rs Q qs x10 x := by
  obtain ⟨⟨cs, h1, h2, h3, h4, h5, h6, h7⟩, h8, h9⟩ := h
  have hg : wx.grownBy (wx.setCell ⟨R, k * 15 + 12, none⟩ (.int .u16 x)) (some R) := gb_set (gb_refl _ _) _ _ _
  refine ⟨⟨_, h1.set _ _, by simp [h2], fun v hv => (h3 v hv).cs (fun i hi => by rw [Array.getElem?_setIfInBounds_ne (by omega)]), fun v hv hm => ?_, ?_, Array.getElem?_setIfInBounds_self_of_lt (by omega), ?_⟩, kt_past h1 hg (by decide) _ _ h8, gb_new (gb_trans (gb_none h9) hg) hR⟩
  · rw [Array.getElem?_setIfInBounds_ne (by omega), Array.getElem?_setIfInBounds_ne (by omega)]; exact h4 v hv hm
  · rw [Array.getElem?_setIfInBounds_ne (by omega)]; exact h5
  · rw [Array.getElem?_setIfInBounds_ne (by omega)]; exact h7
theorem Rt.done (h : Rt w wx R m k rs Q qs x10 x12) (h1 : x10 = fl (rc rs k).tg) (h2 : x12 = exf (rc rs k).ex) : Rs w wx R m (k + 1) rs := by
  obtain ⟨⟨cs, k1, k2, k3, k4, k5, k6, k7⟩, _, k9⟩ := h
  refine ⟨⟨cs, k1, k2, fun v hv => ?_, fun v hv hm => k4 v (by omega) hm⟩, k9⟩
  rcases (show v < k ∨ v = k by omega) with e | rfl
  · exact k3 v e
  · exact ⟨by rw [← h1]; exact k5, by rw [← h2]; exact k6, k7⟩
theorem Rt.hf (h : Rt w wx R m k rs Q qs x10 x12) : R < wx.heap.size ∧ (∃ u, wx.cell? ⟨R, k * 15 + 10, none⟩ = some u) ∧ (∃ u, wx.cell? ⟨R, k * 15 + 12, none⟩ = some u) ∧ ∀ i, wx.frozen? ⟨R, i, none⟩ = false := by
  obtain ⟨⟨cs, h1, h2, h3, h4, h5, h6, h7⟩, h8, h9⟩ := h
  exact ⟨h1.lt, ⟨_, (h1.cell _).trans h5⟩, ⟨_, (h1.cell _).trans h6⟩, fun i => h1.free i⟩
theorem Rs.hf (h : Rs w wx R m k rs) (hk : k < m) : R < wx.heap.size ∧ (∃ u, wx.cell? ⟨R, k * 15 + 14, none⟩ = some u) ∧ ∀ i, wx.frozen? ⟨R, i, none⟩ = false := by
  obtain ⟨⟨cs, h1, h2, _⟩, _⟩ := h
  exact ⟨h1.lt, h1.has (by omega), fun i => h1.free i⟩
/-- the pairs of a part, k of them done; or the first of pair k too -/
def Dd (w wx : World) (D m k : Nat) (dz : List (Int × Int)) : Prop := (∃ cs, Blk wx D 141 cs ∧ cs.size = m * 2 ∧ ∀ v, v < k → cs[v * 2]? = some (.int .u32 (dp dz v).1) ∧ cs[v * 2 + 1]? = some (.int .u32 (dp dz v).2)) ∧ w.grownBy wx none
def De (w wx : World) (D m k : Nat) (dz : List (Int × Int)) : Prop := (∃ cs, Blk wx D 141 cs ∧ cs.size = m * 2 ∧ (∀ v, v < k → cs[v * 2]? = some (.int .u32 (dp dz v).1) ∧ cs[v * 2 + 1]? = some (.int .u32 (dp dz v).2)) ∧ cs[k * 2]? = some (.int .u32 (dp dz k).1)) ∧ w.grownBy wx none
variable {D : Nat} {dz : List (Int × Int)}
theorem Dd.hf (h : Dd w wx D m k dz) (hk : k < m) : D < wx.heap.size ∧ (∃ u, wx.cell? ⟨D, k * 2, none⟩ = some u) ∧ ∀ i, wx.frozen? ⟨D, i, none⟩ = false := by
  obtain ⟨⟨cs, h1, h2, _⟩, _⟩ := h
  exact ⟨h1.lt, h1.has (by omega), fun i => h1.free i⟩
theorem De.hf (h : De w wx D m k dz) (hk : k < m) : D < wx.heap.size ∧ (∃ u, wx.cell? ⟨D, k * 2 + 1, none⟩ = some u) ∧ ∀ i, wx.frozen? ⟨D, i, none⟩ = false := by
  obtain ⟨⟨cs, h1, h2, _⟩, _⟩ := h
  exact ⟨h1.lt, h1.has (by omega), fun i => h1.free i⟩
theorem Dd.one (h : Dd w wx D m k dz) (hk : k < m) (hD : w.heap.size ≤ D) : De w (wx.setCell ⟨D, k * 2, none⟩ (.int .u32 (dp dz k).1)) D m k dz := by
  obtain ⟨⟨cs, h1, h2, h3⟩, h4⟩ := h
  refine ⟨⟨_, h1.set _ _, by simp [h2], fun v hv => ?_, Array.getElem?_setIfInBounds_self_of_lt (by omega)⟩, gb_new (gb_trans (gb_none h4) (gb_set (gb_refl wx (some D)) _ _ _)) hD⟩
  rw [Array.getElem?_setIfInBounds_ne (by omega), Array.getElem?_setIfInBounds_ne (by omega)]; exact h3 v hv
theorem De.two (h : De w wx D m k dz) (hk : k < m) (hD : w.heap.size ≤ D) : Dd w (wx.setCell ⟨D, k * 2 + 1, none⟩ (.int .u32 (dp dz k).2)) D m (k + 1) dz := by
  obtain ⟨⟨cs, h1, h2, h3, h5⟩, h4⟩ := h
  refine ⟨⟨_, h1.set _ _, by simp [h2], fun v hv => ?_⟩, gb_new (gb_trans (gb_none h4) (gb_set (gb_refl wx (some D)) _ _ _)) hD⟩
  rcases (show v < k ∨ v = k by omega) with e | rfl
  · rw [Array.getElem?_setIfInBounds_ne (by omega), Array.getElem?_setIfInBounds_ne (by omega)]; exact h3 v e
  · rw [Array.getElem?_setIfInBounds_ne (by omega)]
    exact ⟨h5, Array.getElem?_setIfInBounds_self_of_lt (by omega)⟩
/-- the parts, j of them done -/
def Ts (w wx : World) (T m j : Nat) (ps : List Pt) : Prop := (∃ cs, Blk wx T 74 cs ∧ cs.size = m * 11 ∧ (∀ v, v < j → TRow wx cs (pt ps v) v false) ∧ ∀ v, j ≤ v → v < m → ∀ i, i < 11 → cs[v * 11 + i]? = zrP[i]?) ∧ w.grownBy wx none
variable {T j ib db : Nat} {ps : List Pt} {p : Pt}
theorem Ts.gb (h : Ts w wx T m j ps) (hg : wx.grownBy wy none) : Ts w wy T m j ps := by
  obtain ⟨⟨cs, h1, h2, h3, h4⟩, h5⟩ := h
  exact ⟨⟨cs, h1.gb hg (by simp), h2, fun v hv => (h3 v hv).gb hg, h4⟩, gb_trans h5 hg⟩
theorem TRow.cs {cs cs' : Array Value} {v : Nat} {l : Bool} (h : TRow w cs p v l) (e : ∀ i, i < 11 → cs'[v * 11 + i]? = cs[v * 11 + i]?) : TRow w cs' p v l := by
  obtain ⟨ib, db, h1, h2⟩ := h
  exact ⟨ib, db, fun i hi => (e i hi).trans (h1 i hi), h2⟩
/-- the four stores of a part -/
def put4T (w : World) (T j ib db : Nat) (p : Pt) : World := (((w.setCell ⟨T, j * 11 + 2, none⟩ (.slice (some ⟨ib, 0, none⟩) p.rz.length p.rz.length)).setCell ⟨T, j * 11 + 7, none⟩ (.slice (some ⟨db, 0, none⟩) p.dz.length p.dz.length)).setCell ⟨T, j * 11 + 8, none⟩ (.bool p.cb)).setCell ⟨T, j * 11 + 9, none⟩ (.bool p.fb)
theorem Ts.next (h : Ts w wx T m j ps) (hj : j < m) (hT : w.heap.size ≤ T) (hp : pt ps j = p) (hd : DRow wx ib db p) : Ts w (put4T wx T j ib db p) T m (j + 1) ps := by
  obtain ⟨⟨cs, h1, h2, h3, h4⟩, h5⟩ := h
  have hg : wx.grownBy (put4T wx T j ib db p) (some T) := gb_set (gb_set (gb_set (gb_set (gb_refl _ _) _ _ _) _ _ _) _ _ _) _ _ _
  refine ⟨⟨_, (((h1.set _ _).set _ _).set _ _).set _ _, by simp [h2], fun v hv => ?_, fun v hv hm i hi => ?_⟩, gb_new (gb_trans (gb_none h5) hg) hT⟩
  · rcases (show v < j ∨ v = j by omega) with e | rfl
    · refine ((h3 v e).past h1 hg (by decide) (by decide)).cs (fun i hi => ?_)
      rw [Array.getElem?_setIfInBounds_ne (by omega), Array.getElem?_setIfInBounds_ne (by omega), Array.getElem?_setIfInBounds_ne (by omega), Array.getElem?_setIfInBounds_ne (by omega)]
    · rw [hp]
      refine ⟨ib, db, fun i hi => ?_, hd.past h1 hg (by decide) (by decide)⟩
      have hz := h4 v (Nat.le_refl _) hj i hi
      rcases (show i = 2 ∨ i = 7 ∨ i = 8 ∨ i = 9 ∨ (i ≠ 2 ∧ i ≠ 7 ∧ i ≠ 8 ∧ i ≠ 9) by omega) with rfl | rfl | rfl | rfl | ⟨n2, n7, n8, n9⟩
      · rw [Array.getElem?_setIfInBounds_ne (by omega), Array.getElem?_setIfInBounds_ne (by omega), Array.getElem?_setIfInBounds_ne (by omega), Array.getElem?_setIfInBounds_self_of_lt (by omega)]; rfl
      · rw [Array.getElem?_setIfInBounds_ne (by omega), Array.getElem?_setIfInBounds_ne (by omega), Array.getElem?_setIfInBounds_self_of_lt (by simp; omega)]; rfl
      · rw [Array.getElem?_setIfInBounds_ne (by omega), Array.getElem?_setIfInBounds_self_of_lt (by simp; omega)]; rfl
      · rw [Array.getElem?_setIfInBounds_self_of_lt (by simp; omega)]; rfl
      · rw [Array.getElem?_setIfInBounds_ne (by omega), Array.getElem?_setIfInBounds_ne (by omega), Array.getElem?_setIfInBounds_ne (by omega), Array.getElem?_setIfInBounds_ne (by omega), hz]
        rcases (show i = 0 ∨ i = 1 ∨ i = 3 ∨ i = 4 ∨ i = 5 ∨ i = 6 ∨ i = 10 by omega) with rfl | rfl | rfl | rfl | rfl | rfl | rfl <;> rfl
  · rw [Array.getElem?_setIfInBounds_ne (by omega), Array.getElem?_setIfInBounds_ne (by omega), Array.getElem?_setIfInBounds_ne (by omega), Array.getElem?_setIfInBounds_ne (by omega)]
    exact h4 v (by omega) hm i hi
/-- one file laid -/
structure One (w : World) (p r t : Nat) (z : Wf) : Prop where
  pp : ∃ cs, Blk w p 122 cs ∧ cs[20]? = some (.slice (some ⟨t, 0, none⟩) z.ps.length z.ps.length) ∧ cs[35]? = some (.slice (some ⟨r, 0, none⟩) z.rs.length z.rs.length) ∧ cs[63]? = some (.int .u32 (fl z.css))
  rr : ∃ cs, Blk w r 138 cs ∧ ∀ j, j < z.rs.length → RRow cs (rc z.rs j) j
  tt : ∃ cs, Blk w t 74 cs ∧ cs.size = z.ps.length * 11 ∧ ∀ j, j < z.ps.length → TRow w cs (pt z.ps j) j false
structure Kts (w w' : World) : Prop where
  k1 : Kt 122 w w'
  k2 : Kt 138 w w'
  k3 : Kt 74 w w'
  k4 : Kt 23 w w'
  k5 : Kt 141 w w'
theorem Kts.of_gb (h : wx.grownBy wy none) : Kts wx wy := ⟨kt_gb h, kt_gb h, kt_gb h, kt_gb h, kt_gb h⟩
theorem Kts.of_past {b : Nat} {u : TypeId} {bs : Array Value} (hb : Blk wx b u bs) (h : wx.grownBy wy (some b)) (h1 : (122 : TypeId) ≠ u) (h2 : (138 : TypeId) ≠ u) (h3 : (74 : TypeId) ≠ u) (h4 : (23 : TypeId) ≠ u) (h5 : (141 : TypeId) ≠ u) : Kts wx wy := ⟨kt_past hb h h1, kt_past hb h h2, kt_past hb h h3, kt_past hb h h4, kt_past hb h h5⟩
theorem One.kt {p r t : Nat} {z : Wf} (h : One wx p r t z) (k : Kts wx wy) : One wy p r t z := by
  obtain ⟨c1, a1, a2⟩ := h.pp
  obtain ⟨c2, b1, b2⟩ := h.rr
  obtain ⟨c3, d1, d2, d3⟩ := h.tt
  refine ⟨⟨c1, k.k1 _ _ a1, a2⟩, ⟨c2, k.k2 _ _ b1, b2⟩, ⟨c3, k.k3 _ _ d1, d2, fun j hj => ?_⟩⟩
  obtain ⟨ib, db, e1, ⟨es, e2, e3⟩, ⟨ds, e4, e5⟩⟩ := d3 j hj
  exact ⟨ib, db, e1, ⟨es, k.k4 _ _ e2, e3⟩, ⟨ds, k.k5 _ _ e4, e5⟩⟩
/-- the world behind the first i files -/
structure Bq (w wx : World) (Q F n i : Nat) (P R T : Nat → Nat) (fs : List Wf) : Prop where
  q : ∃ qs, Blk wx Q 123 qs ∧ qs.size = n ∧ ∀ v, v < i → qs[v]? = some (.pointer (some ⟨P v, 0, none⟩))
  f : ∃ cs, Blk wx F 60 cs ∧ cs.size = n * 24 ∧ ∀ v, v < i → FRow cs P (wf fs v) v false
  o : ∀ v, v < i → One wx (P v) (R v) (T v) (wf fs v)
  lo : ∀ v, v < i → w.heap.size ≤ T v
  inj : ∀ u v, u < i → v < i → T u = T v → u = v
  g : w.grownBy wx none
  b : w.heap.size ≤ Q ∧ w.heap.size ≤ F
theorem Bq.gb {Q F n i : Nat} {P R T : Nat → Nat} {fs : List Wf} (h : Bq w wx Q F n i P R T fs) (hg : wx.grownBy wy none) : Bq w wy Q F n i P R T fs := by
  obtain ⟨qs, q1, q2⟩ := h.q
  obtain ⟨cs, f1, f2⟩ := h.f
  exact ⟨⟨qs, q1.gb hg (by simp), q2⟩, ⟨cs, f1.gb hg (by simp), f2⟩, fun v hv => (h.o v hv).kt (.of_gb hg), h.lo, h.inj, gb_trans h.g hg, h.b⟩
/-- behind the store of its repr p into the row of reprs -/
theorem Bq.setq {Q F n i p : Nat} {P R T : Nat → Nat} {fs : List Wf} (h : Bq w wx Q F n i P R T fs) (hi : i < n) : Bq w (wx.setCell ⟨Q, i, none⟩ (.pointer (some ⟨p, 0, none⟩))) Q F n i P R T fs ∧ (∃ qs, Blk (wx.setCell ⟨Q, i, none⟩ (.pointer (some ⟨p, 0, none⟩))) Q 123 qs ∧ qs[i]? = some (.pointer (some ⟨p, 0, none⟩))) ∧ Kts wx (wx.setCell ⟨Q, i, none⟩ (.pointer (some ⟨p, 0, none⟩))) := by
  obtain ⟨qs, q1, q2, q3⟩ := h.q
  obtain ⟨cs, f1, f2⟩ := h.f
  have hg : wx.grownBy (wx.setCell ⟨Q, i, none⟩ (.pointer (some ⟨p, 0, none⟩))) (some Q) := gb_set (gb_refl _ _) _ _ _
  have hk : Kts wx (wx.setCell ⟨Q, i, none⟩ (.pointer (some ⟨p, 0, none⟩))) := .of_past q1 hg (by decide) (by decide) (by decide) (by decide) (by decide)
  refine ⟨⟨⟨_, q1.set i _, by simp [q2], fun v hv => ?_⟩, ⟨cs, kt_past q1 hg (by decide) _ _ f1, f2⟩, fun v hv => (h.o v hv).kt hk, h.lo, h.inj, gb_new (gb_trans (gb_none h.g) hg) h.b.1, h.b⟩, ⟨_, q1.set i _, Array.getElem?_setIfInBounds_self_of_lt (by omega)⟩, hk⟩
  rw [Array.getElem?_setIfInBounds_ne (by omega)]; exact q3 v hv
/-- the row of file i under way -/
def Fr (wx : World) (F n i : Nat) (P : Nat → Nat) (fs : List Wf) (v2 v7 v23 : Value) : Prop := ∃ cs, Blk wx F 60 cs ∧ cs.size = n * 24 ∧ (∀ v, v < i → FRow cs P (wf fs v) v false) ∧ cs[i * 24 + 2]? = some v2 ∧ cs[i * 24 + 7]? = some v7 ∧ cs[i * 24 + 23]? = some v23
/-- all but the row of files -/
structure Bo (w wx : World) (Q n i : Nat) (P R T : Nat → Nat) (fs : List Wf) (p r t : Nat) : Prop where
  q : ∃ qs, Blk wx Q 123 qs ∧ qs.size = n ∧ (∀ v, v < i → qs[v]? = some (.pointer (some ⟨P v, 0, none⟩))) ∧ qs[i]? = some (.pointer (some ⟨p, 0, none⟩))
  o : ∀ v, v < i → One wx (P v) (R v) (T v) (wf fs v)
  oi : One wx p r t (wf fs i)
  lo : ∀ v, v < i → w.heap.size ≤ T v
  inj : ∀ u v, u < i → v < i → T u = T v → u = v
  tn : w.heap.size ≤ t ∧ ∀ v, v < i → T v ≠ t
  g : w.grownBy wx none
  b : w.heap.size ≤ Q
variable {F n i r t p' : Nat} {P R' T' : Nat → Nat} {fs : List Wf} {v2 v7 v23 : Value}
theorem Fr.gb (h : Fr wx F n i P fs v2 v7 v23) (hg : wx.grownBy wy none) : Fr wy F n i P fs v2 v7 v23 := by
  obtain ⟨cs, h1, h2⟩ := h
  exact ⟨cs, h1.gb hg (by simp), h2⟩
theorem FRow.cs {cs cs' : Array Value} {z : Wf} {v : Nat} {l : Bool} (h : FRow cs P z v l) (e : ∀ i, i < 24 → cs'[v * 24 + i]? = cs[v * 24 + i]?) : FRow cs' P z v l := ⟨(e 2 (by omega)).trans h.1, (e 7 (by omega)).trans h.2.1, (e 23 (by omega)).trans h.2.2⟩
theorem Fr.set7 (h : Fr wx F n i P fs v2 v7 v23) (hi : i < n) (x : Value) : Fr (wx.setCell ⟨F, i * 24 + 7, none⟩ x) F n i P fs v2 x v23 := by
  obtain ⟨cs, h1, h2, h3, h4, h5, h6⟩ := h
  refine ⟨_, h1.set _ x, by simp [h2], fun v hv => (h3 v hv).cs (fun k hk => by rw [Array.getElem?_setIfInBounds_ne (by omega)]), ?_, Array.getElem?_setIfInBounds_self_of_lt (by omega), ?_⟩
  · rw [Array.getElem?_setIfInBounds_ne (by omega)]; exact h4
  · rw [Array.getElem?_setIfInBounds_ne (by omega)]; exact h6
theorem Fr.set23 (h : Fr wx F n i P fs v2 v7 v23) (hi : i < n) (x : Value) : Fr (wx.setCell ⟨F, i * 24 + 23, none⟩ x) F n i P fs v2 v7 x := by
  obtain ⟨cs, h1, h2, h3, h4, h5, h6⟩ := h
  refine ⟨_, h1.set _ x, by simp [h2], fun v hv => (h3 v hv).cs (fun k hk => by rw [Array.getElem?_setIfInBounds_ne (by omega)]), ?_, ?_, Array.getElem?_setIfInBounds_self_of_lt (by omega)⟩
  · rw [Array.getElem?_setIfInBounds_ne (by omega)]; exact h4
  · rw [Array.getElem?_setIfInBounds_ne (by omega)]; exact h5
theorem Fr.seto (h : Fr wx F n i P fs v2 v7 v23) {k : Nat} (hk : k = 0 ∨ k = 20) (x : Value) : Fr (wx.setCell ⟨F, i * 24 + k, none⟩ x) F n i P fs v2 v7 v23 := by
  obtain ⟨cs, h1, h2, h3, h4, h5, h6⟩ := h
  refine ⟨_, h1.set _ x, by simp [h2], fun v hv => (h3 v hv).cs (fun k hk => by rw [Array.getElem?_setIfInBounds_ne (by omega)]), ?_, ?_, ?_⟩
  · rw [Array.getElem?_setIfInBounds_ne (by omega)]; exact h4
  · rw [Array.getElem?_setIfInBounds_ne (by omega)]; exact h5
  · rw [Array.getElem?_setIfInBounds_ne (by omega)]; exact h6
theorem Fr.hf (h : Fr wx F n i P fs v2 v7 v23) (hi : i < n) : F < wx.heap.size ∧ (∀ k, k < 24 → ∃ u, wx.cell? ⟨F, i * 24 + k, none⟩ = some u) ∧ ∀ k, wx.frozen? ⟨F, k, none⟩ = false := by
  obtain ⟨cs, h1, h2, _⟩ := h
  exact ⟨h1.lt, fun k hk => h1.has (by omega), fun k => h1.free k⟩
theorem Bo.kt {Q : Nat} (h : Bo w wx Q n i P R' T' fs p' r t) (k : Kts wx wy) (k6 : Kt 123 wx wy) (hg : w.grownBy wy none) : Bo w wy Q n i P R' T' fs p' r t := by
  obtain ⟨qs, q1, q2⟩ := h.q
  exact ⟨⟨qs, k6 _ _ q1, q2⟩, fun v hv => (h.o v hv).kt k, h.oi.kt k, h.lo, h.inj, h.tn, hg, h.b⟩
theorem Bo.gb {Q : Nat} (h : Bo w wx Q n i P R' T' fs p' r t) (hg : wx.grownBy wy none) : Bo w wy Q n i P R' T' fs p' r t := h.kt (.of_gb hg) (kt_gb hg) (gb_trans h.g hg)
theorem Bo.past {Q : Nat} {cs : Array Value} (h : Bo w wx Q n i P R' T' fs p' r t) (hb : Blk wx F 60 cs) (hF : w.heap.size ≤ F) (hg : wx.grownBy wy (some F)) : Bo w wy Q n i P R' T' fs p' r t :=
  h.kt (.of_past hb hg (by decide) (by decide) (by decide) (by decide) (by decide)) (kt_past hb hg (by decide)) (gb_new (gb_trans (gb_none h.g) hg) hF)
/-- the file i done -/
theorem Bo.done {Q : Nat} (h : Bo w wx Q n i P R' T' fs p' r t) (hF : w.heap.size ≤ F) (hf : Fr wx F n i P fs (.iface 123 (.pointer (some ⟨p', 0, none⟩))) (.int .u8 (sek (wf fs i).se)) (.bool false)) : ∃ P R T, Bq w wx Q F n (i + 1) P R T fs := by
  obtain ⟨qs, q1, q2, q3, q4⟩ := h.q
  obtain ⟨cs, f1, f2, f3, f4, f5, f6⟩ := hf
  refine ⟨fun v => if v = i then p' else P v, fun v => if v = i then r else R' v, fun v => if v = i then t else T' v, ⟨qs, q1, q2, fun v hv => ?_⟩, ⟨cs, f1, f2, fun v hv => ?_⟩, fun v hv => ?_, fun v hv => ?_, fun u v hu hv e => ?_, h.g, h.b, hF⟩
  · by_cases e : v = i
    · subst e
      show qs[v]? = some (.pointer (some ⟨if v = v then p' else P v, 0, none⟩))
      rw [if_pos rfl]; exact q4
    · show qs[v]? = some (.pointer (some ⟨if v = i then p' else P v, 0, none⟩))
      rw [if_neg e]; exact q3 v (by omega)
  · by_cases e : v = i
    · subst e; exact ⟨(by show cs[v * 24 + 2]? = some (.iface 123 (.pointer (some ⟨if v = v then p' else P v, 0, none⟩))); rw [if_pos rfl]; exact f4), f5, f6⟩
    · obtain ⟨e1, e2, e3⟩ := f3 v (by omega)
      exact ⟨(by show cs[v * 24 + 2]? = some (.iface 123 (.pointer (some ⟨if v = i then p' else P v, 0, none⟩))); rw [if_neg e]; exact e1), e2, e3⟩
  · by_cases e : v = i
    · subst e; simp only [if_true]; exact h.oi
    · simp only [if_neg e]; exact h.o v (by omega)
  · by_cases e : v = i
    · subst e; simp only [if_true]; exact h.tn.1
    · simp only [if_neg e]; exact h.lo v (by omega)
  · by_cases eu : u = i
    · by_cases ev : v = i
      · rw [eu, ev]
      · simp only [if_pos eu, if_neg ev] at e
        exact absurd e.symm (h.tn.2 v (by omega))
    · by_cases ev : v = i
      · simp only [if_neg eu, if_pos ev] at e
        exact absurd e (h.tn.2 u (by omega))
      · simp only [if_neg eu, if_neg ev] at e
        exact h.inj u v (by omega) (by omega) e
/-- a repr under way, its stub's index x -/
def Pz (wx : World) (p r t m1 m2 : Nat) (x : Int) : Prop := ∃ cs, Blk wx p 122 cs ∧ cs.size = 64 ∧ cs[20]? = some (.slice (some ⟨t, 0, none⟩) m2 m2) ∧ cs[35]? = some (.slice (some ⟨r, 0, none⟩) m1 m1) ∧ cs[63]? = some (.int .u32 x)
end
end Go.Proofs.Ytebecbidodnneaa
