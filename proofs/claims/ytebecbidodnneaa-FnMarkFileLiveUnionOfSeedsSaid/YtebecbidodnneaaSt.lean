/-
  The graph of files and parts in memory; its marks. No statement of the seat is proved here.
-/
import Derived.Test.YtebecbidodnneaaPl
import Derived.Test.YtebecbidodnneaaReg
namespace Go.Proofs.Ytebecbidodnneaa
open Go.RowKit
set_option linter.unusedVariables false
set_option linter.unusedSimpArgs false

/-- the flipped index -/
def fl (t : Int) : Int := if 0 ≤ t then 4294967295 - t else 0
def exf (b : Bool) : Int := if b = true then 1024 else 0
def sek (b : Bool) : Int := if b = true then 0 else 1
def rowP (ib db : Nat) (p : Pt) (live : Bool) : List Value := [.slice none 0 0, .slice none 0 0, .slice (some ⟨ib, 0, none⟩) p.rz.length p.rz.length, .slice none 0 0, .map none, .map none, .map none, .slice (some ⟨db, 0, none⟩) p.dz.length p.dz.length, .bool p.cb, .bool p.fb, .bool live]
/-- the two rows that a part leads to -/
def DRow (w : World) (ib db : Nat) (p : Pt) : Prop :=
  (∃ cs, Blk w ib 23 cs ∧ ∀ k, k < p.rz.length → cs[k]? = some (.int .u32 (nth p.rz k))) ∧
  (∃ cs, Blk w db 141 cs ∧ ∀ k, k < p.dz.length → cs[k * 2]? = some (.int .u32 (dp p.dz k).1) ∧ cs[k * 2 + 1]? = some (.int .u32 (dp p.dz k).2))
def TRow (w : World) (cs : Array Value) (p : Pt) (j : Nat) (live : Bool) : Prop := ∃ ib db, (∀ i, i < 11 → cs[j * 11 + i]? = (rowP ib db p live)[i]?) ∧ DRow w ib db p
def FRow (cs : Array Value) (P : Nat → Nat) (z : Wf) (v : Nat) (live : Bool) : Prop :=
  cs[v * 24 + 2]? = some (.iface 123 (.pointer (some ⟨P v, 0, none⟩))) ∧ cs[v * 24 + 7]? = some (.int .u8 (sek z.se)) ∧ cs[v * 24 + 23]? = some (.bool live)
def RRow (cs : Array Value) (r : Rc) (j : Nat) : Prop := cs[j * 15 + 10]? = some (.int .u32 (fl r.tg)) ∧ cs[j * 15 + 12]? = some (.int .u16 (exf r.ex)) ∧ cs[j * 15 + 14]? = some (.int .u8 r.kd)
/-- the graph in memory: C the context, O its options, F the files, P v the repr of file v, R v its records, T v its parts; d the marks -/
structure St (w : World) (C O F : Nat) (P R T : Nat → Nat) (fs : List Wf) (ig : Bool) (d : Nat → Bool) : Prop where
  c : ∃ cs, Blk w C 212 cs ∧ cs[0]? = some (.pointer (some ⟨O, 0, none⟩)) ∧ cs[10]? = some (.slice (some ⟨F, 0, none⟩) fs.length fs.length)
  o : ∃ cs, Blk w O 187 cs ∧ cs[93]? = some (.bool ig) ∧ cs[94]? = some (.bool true)
  f : ∃ cs, Blk w F 60 cs ∧ cs.size = fs.length * 24 ∧ ∀ v, v < fs.length → FRow cs P (wf fs v) v (d (cf v))
  p : ∀ v, v < fs.length → ∃ cs, Blk w (P v) 122 cs ∧ cs[20]? = some (.slice (some ⟨T v, 0, none⟩) (wf fs v).ps.length (wf fs v).ps.length) ∧ cs[35]? = some (.slice (some ⟨R v, 0, none⟩) (wf fs v).rs.length (wf fs v).rs.length) ∧ cs[63]? = some (.int .u32 (fl (wf fs v).css))
  r : ∀ v, v < fs.length → ∃ cs, Blk w (R v) 138 cs ∧ ∀ j, j < (wf fs v).rs.length → RRow cs (rc (wf fs v).rs j) j
  t : ∀ v, v < fs.length → ∃ cs, Blk w (T v) 74 cs ∧ cs.size = (wf fs v).ps.length * 11 ∧ ∀ j, j < (wf fs v).ps.length → TRow w cs (pt (wf fs v).ps j) j (d (cp v j))
  inj : ∀ u v, u < fs.length → v < fs.length → T u = T v → u = v
/-- what the law's files are, well formed -/
structure OkE (fs : List Wf) : Prop where
  n : fs.length ≤ 4096
  css : ∀ v, v < fs.length → (wf fs v).css < (fs.length : Int)
  rl : ∀ v, v < fs.length → (wf fs v).rs.length ≤ 1048576
  tg : ∀ v, v < fs.length → ∀ j, j < (wf fs v).rs.length → (rc (wf fs v).rs j).tg < (fs.length : Int)
  pl : ∀ v, v < fs.length → (wf fs v).ps.length ≤ 1048576
  zl : ∀ v, v < fs.length → ∀ j, j < (wf fs v).ps.length → (pt (wf fs v).ps j).rz.length ≤ 1048576 ∧ (pt (wf fs v).ps j).dz.length ≤ 1048576
  rz : ∀ v, v < fs.length → ∀ j, j < (wf fs v).ps.length → ∀ k, k < (pt (wf fs v).ps j).rz.length → 0 ≤ nth (pt (wf fs v).ps j).rz k ∧ nth (pt (wf fs v).ps j).rz k < ((wf fs v).rs.length : Int)
  dz : ∀ v, v < fs.length → ∀ j, j < (wf fs v).ps.length → ∀ k, k < (pt (wf fs v).ps j).dz.length → 0 ≤ (dp (pt (wf fs v).ps j).dz k).1 ∧ (dp (pt (wf fs v).ps j).dz k).1 < (fs.length : Int) ∧ 0 ≤ (dp (pt (wf fs v).ps j).dz k).2 ∧ (dp (pt (wf fs v).ps j).dz k).2 < ((wf fs (dp (pt (wf fs v).ps j).dz k).1.toNat).ps.length : Int)
theorem blk_ne {w : World} {a b : Nat} {t u : TypeId} {cs ds : Array Value} (h : Blk w a t cs) (k : Blk w b u ds) (hne : t ≠ u) : a ≠ b := fun e => by
  subst e
  have h3 := Option.some.inj (h.symm.trans k)
  rw [Obj.cells.injEq] at h3
  exact hne h3.2.1
theorem gb_new {w w' : World} {b : Nat} (h : w.grownBy w' (some b)) (hb : w.heap.size ≤ b) : w.grownBy w' none :=
  ⟨h.os, h.tape, h.output, h.size, fun i hi _ => h.block i hi (fun e => by have := Option.some.inj e; omega)⟩
theorem gb_none {w w' : World} {r : Option Nat} (h : w.grownBy w' none) : w.grownBy w' r := ⟨h.os, h.tape, h.output, h.size, fun i hi _ => h.block i hi (by simp)⟩
theorem below_of {w w' : World} (h : w.grownBy w' none) : Below w.heap.size w w' := ⟨h.os, h.tape, h.output, h.size, fun i hi => h.block i hi (by simp)⟩
/-- but the files and the parts, all is as it was -/
structure Ext (F : Nat) (T : Nat → Nat) (n : Nat) (w w' : World) : Prop where
  os : w'.os = w.os
  tape : w'.tape = w.tape
  output : w'.output = w.output
  size : w.heap.size ≤ w'.heap.size
  block : ∀ i, i < w.heap.size → i ≠ F → (∀ v, v < n → i ≠ T v) → w'.heap[i]? = w.heap[i]?
section
variable {w w' : World} {C O F : Nat} {P R T : Nat → Nat} {fs : List Wf} {ig : Bool} {d : Nat → Bool} {n : Nat}
theorem Ext.refl (F : Nat) (T : Nat → Nat) (n : Nat) (w : World) : Ext F T n w w := ⟨rfl, rfl, rfl, Nat.le_refl _, fun _ _ _ _ => rfl⟩
theorem Ext.trans {a b c : World} (h : Ext F T n a b) (k : Ext F T n b c) : Ext F T n a c :=
  ⟨k.os.trans h.os, k.tape.trans h.tape, k.output.trans h.output, Nat.le_trans h.size k.size, fun i hi h1 h2 => (k.block i (Nat.lt_of_lt_of_le hi h.size) h1 h2).trans (h.block i hi h1 h2)⟩
theorem Ext.of_gb (h : w.grownBy w' none) : Ext F T n w w' := ⟨h.os, h.tape, h.output, h.size, fun i hi _ _ => h.block i hi (by simp)⟩
theorem Ext.of_f (h : w.grownBy w' (some F)) : Ext F T n w w' := ⟨h.os, h.tape, h.output, h.size, fun i hi h1 _ => h.block i hi (fun e => h1 (Option.some.inj e))⟩
theorem Ext.of_t {v : Nat} (hv : v < n) (h : w.grownBy w' (some (T v))) : Ext F T n w w' := ⟨h.os, h.tape, h.output, h.size, fun i hi _ h2 => h.block i hi (fun e => h2 v hv (Option.some.inj e))⟩
theorem DRow.gb {ib db : Nat} {p : Pt} (h : DRow w ib db p) {b : Option Nat} (hg : w.grownBy w' b) (h1 : some ib ≠ b) (h2 : some db ≠ b) : DRow w' ib db p := by
  obtain ⟨⟨cs, k1, k2⟩, ⟨ds, k3, k4⟩⟩ := h
  exact ⟨⟨cs, k1.gb hg h1, k2⟩, ⟨ds, k3.gb hg h2, k4⟩⟩
theorem DRow.past {ib db b : Nat} {p : Pt} {t : TypeId} {bs : Array Value} (h : DRow w ib db p) (hb : Blk w b t bs) (hg : w.grownBy w' (some b)) (h1 : (23 : TypeId) ≠ t) (h2 : (141 : TypeId) ≠ t) : DRow w' ib db p := by
  obtain ⟨⟨cs, k1, _⟩, ⟨ds, k3, _⟩⟩ := id h
  exact h.gb hg (fun e => blk_ne k1 hb h1 (Option.some.inj e)) (fun e => blk_ne k3 hb h2 (Option.some.inj e))
theorem TRow.gb {cs : Array Value} {p : Pt} {j : Nat} {l : Bool} (h : TRow w cs p j l) (hg : w.grownBy w' none) : TRow w' cs p j l := by
  obtain ⟨ib, db, h1, h2⟩ := h
  exact ⟨ib, db, h1, h2.gb hg (by simp) (by simp)⟩
theorem TRow.past {cs : Array Value} {p : Pt} {j b : Nat} {l : Bool} {t : TypeId} {bs : Array Value} (h : TRow w cs p j l) (hb : Blk w b t bs) (hg : w.grownBy w' (some b)) (h1 : (23 : TypeId) ≠ t) (h2 : (141 : TypeId) ≠ t) : TRow w' cs p j l := by
  obtain ⟨ib, db, k1, k2⟩ := h
  exact ⟨ib, db, k1, k2.past hb hg h1 h2⟩
theorem St.gb (h : St w C O F P R T fs ig d) (hg : w.grownBy w' none) : St w' C O F P R T fs ig d := by
  obtain ⟨c1, c2, c3⟩ := h.c
  obtain ⟨o1, o2, o3⟩ := h.o
  obtain ⟨f1, f2, f3⟩ := h.f
  refine ⟨⟨c1, c2.gb hg (by simp), c3⟩, ⟨o1, o2.gb hg (by simp), o3⟩, ⟨f1, f2.gb hg (by simp), f3⟩, fun v hv => ?_, fun v hv => ?_, fun v hv => ?_, h.inj⟩
  · obtain ⟨cs, k1, k2⟩ := h.p v hv
    exact ⟨cs, k1.gb hg (by simp), k2⟩
  · obtain ⟨cs, k1, k2⟩ := h.r v hv
    exact ⟨cs, k1.gb hg (by simp), k2⟩
  · obtain ⟨cs, k1, k2, k3⟩ := h.t v hv
    exact ⟨cs, k1.gb hg (by simp), k2, fun j hj => (k3 j hj).gb hg⟩
theorem St.markF (h : St w C O F P R T fs ig d) (hok : OkE fs) {a : Nat} (ha : a < fs.length) : St (w.setCell ⟨F, a * 24 + 23, none⟩ (.bool true)) C O F P R T fs ig (fun x => d x || x == cf a) := by
  have hg : w.grownBy (w.setCell ⟨F, a * 24 + 23, none⟩ (.bool true)) (some F) := gb_set (gb_refl _ _) _ _ _
  obtain ⟨c1, c2, c3⟩ := h.c
  obtain ⟨o1, o2, o3⟩ := h.o
  obtain ⟨f1, f2, f3, f4⟩ := h.f
  refine ⟨⟨c1, c2.gb hg (fun e => blk_ne c2 f2 (by decide) (Option.some.inj e)), c3⟩, ⟨o1, o2.gb hg (fun e => blk_ne o2 f2 (by decide) (Option.some.inj e)), o3⟩, ⟨_, f2.set _ _, by simp [f3], fun v hv => ?_⟩, fun v hv => ?_, fun v hv => ?_, fun v hv => ?_, h.inj⟩
  · obtain ⟨q1, q2, q3⟩ := f4 v hv
    refine ⟨by rw [Array.getElem?_setIfInBounds_ne (by omega)]; exact q1, by rw [Array.getElem?_setIfInBounds_ne (by omega)]; exact q2, ?_⟩
    by_cases e : v = a
    · subst e
      simp only [beq_self_eq_true, Bool.or_true]
      exact Array.getElem?_setIfInBounds_self_of_lt (by omega)
    · rw [Array.getElem?_setIfInBounds_ne (by omega), q3]
      have : (cf v == cf a) = false := by simp; exact fun h => e (cf_inj h)
      simp [this]
  · obtain ⟨cs, k1, k2⟩ := h.p v hv
    exact ⟨cs, k1.gb hg (fun e => blk_ne k1 f2 (by decide) (Option.some.inj e)), k2⟩
  · obtain ⟨cs, k1, k2⟩ := h.r v hv
    exact ⟨cs, k1.gb hg (fun e => blk_ne k1 f2 (by decide) (Option.some.inj e)), k2⟩
  · obtain ⟨cs, k1, k2, k3⟩ := h.t v hv
    refine ⟨cs, k1.gb hg (fun e => blk_ne k1 f2 (by decide) (Option.some.inj e)), k2, fun j hj => ?_⟩
    have : (cp v j == cf a) = false := by simp; exact fun h => cf_cp (by have := hok.pl v hv; omega) h.symm
    simp only [this, Bool.or_false]
    exact (k3 j hj).past f2 hg (by decide) (by decide)
theorem St.markT (h : St w C O F P R T fs ig d) (hok : OkE fs) {a b : Nat} (ha : a < fs.length) (hb : b < (wf fs a).ps.length) : St (w.setCell ⟨T a, b * 11 + 10, none⟩ (.bool true)) C O F P R T fs ig (fun x => d x || x == cp a b) := by
  have hg : w.grownBy (w.setCell ⟨T a, b * 11 + 10, none⟩ (.bool true)) (some (T a)) := gb_set (gb_refl _ _) _ _ _
  obtain ⟨c1, c2, c3⟩ := h.c
  obtain ⟨o1, o2, o3⟩ := h.o
  obtain ⟨f1, f2, f3, f4⟩ := h.f
  obtain ⟨t1, t2, t3, t4⟩ := h.t a ha
  have hbl := hok.pl a ha
  refine ⟨⟨c1, c2.gb hg (fun e => blk_ne c2 t2 (by decide) (Option.some.inj e)), c3⟩, ⟨o1, o2.gb hg (fun e => blk_ne o2 t2 (by decide) (Option.some.inj e)), o3⟩, ⟨f1, f2.gb hg (fun e => blk_ne f2 t2 (by decide) (Option.some.inj e)), f3, fun v hv => ?_⟩, fun v hv => ?_, fun v hv => ?_, fun v hv => ?_, h.inj⟩
  · have : (cf v == cp a b) = false := by simp; exact fun h => cf_cp (by omega) h
    simp only [this, Bool.or_false]
    exact f4 v hv
  · obtain ⟨cs, k1, k2⟩ := h.p v hv
    exact ⟨cs, k1.gb hg (fun e => blk_ne k1 t2 (by decide) (Option.some.inj e)), k2⟩
  · obtain ⟨cs, k1, k2⟩ := h.r v hv
    exact ⟨cs, k1.gb hg (fun e => blk_ne k1 t2 (by decide) (Option.some.inj e)), k2⟩
  · by_cases e : v = a
    · subst e
      refine ⟨_, t2.set _ _, by simp [t3], fun j hj => ?_⟩
      obtain ⟨ib, db, q1, q2⟩ := (t4 j hj).past t2 hg (by decide) (by decide)
      refine ⟨ib, db, fun i hi => ?_, q2⟩
      by_cases ej : j = b
      · subst ej
        by_cases ei : i = 10
        · subst ei
          simp only [beq_self_eq_true, Bool.or_true]
          rw [Array.getElem?_setIfInBounds_self_of_lt (by omega)]; rfl
        · rw [Array.getElem?_setIfInBounds_ne (by omega), q1 i hi]
          simp only [beq_self_eq_true, Bool.or_true]
          rcases (show i = 0 ∨ i = 1 ∨ i = 2 ∨ i = 3 ∨ i = 4 ∨ i = 5 ∨ i = 6 ∨ i = 7 ∨ i = 8 ∨ i = 9 by omega) with rfl | rfl | rfl | rfl | rfl | rfl | rfl | rfl | rfl | rfl <;> rfl
      · have : (cp v j == cp v b) = false := by simp; exact fun h => ej (cp_inj (by omega) (by omega) h).2
        simp only [this, Bool.or_false]
        rw [Array.getElem?_setIfInBounds_ne (by omega)]
        exact q1 i hi
    · obtain ⟨cs, k1, k2, k3⟩ := h.t v hv
      have hvl := hok.pl v hv
      refine ⟨cs, k1.gb hg (fun e2 => e (h.inj v a hv ha (Option.some.inj e2))), k2, fun j hj => ?_⟩
      have : (cp v j == cp a b) = false := by simp; exact fun h => e (cp_inj (by omega) (by omega) h).1
      simp only [this, Bool.or_false]
      exact (k3 j hj).past t2 hg (by decide) (by decide)
/-- the cells of a file -/
theorem St.fcell (h : St w C O F P R T fs ig d) {a : Nat} (ha : a < fs.length) : w.cell? ⟨C, 10, none⟩ = some (.slice (some ⟨F, 0, none⟩) fs.length fs.length) ∧ C < w.heap.size ∧ w.cell? ⟨F, a * 24 + 2, none⟩ = some (.iface 123 (.pointer (some ⟨P a, 0, none⟩))) ∧ F < w.heap.size ∧
    w.cell? ⟨F, a * 24 + 7, none⟩ = some (.int .u8 (sek (wf fs a).se)) ∧ w.cell? ⟨F, a * 24 + 23, none⟩ = some (.bool (d (cf a))) ∧ ∀ i, w.frozen? ⟨F, i, none⟩ = false := by
  obtain ⟨c1, c2, _, c3⟩ := h.c
  obtain ⟨f1, f2, f3, f4⟩ := h.f
  obtain ⟨q1, q2, q3⟩ := f4 a ha
  exact ⟨(c2.cell 10).trans c3, c2.lt, (f2.cell _).trans q1, f2.lt, (f2.cell _).trans q2, (f2.cell _).trans q3, fun i => f2.free i⟩
theorem St.ocell (h : St w C O F P R T fs ig d) : w.cell? ⟨C, 0, none⟩ = some (.pointer (some ⟨O, 0, none⟩)) ∧ w.cell? ⟨O, 93, none⟩ = some (.bool ig) ∧ w.cell? ⟨O, 94, none⟩ = some (.bool true) ∧ O < w.heap.size := by
  obtain ⟨c1, c2, c3, _⟩ := h.c
  obtain ⟨o1, o2, o3, o4⟩ := h.o
  exact ⟨(c2.cell 0).trans c3, (o2.cell 93).trans o3, (o2.cell 94).trans o4, o2.lt⟩
theorem St.pcell (h : St w C O F P R T fs ig d) {a : Nat} (ha : a < fs.length) : w.cell? ⟨P a, 20, none⟩ = some (.slice (some ⟨T a, 0, none⟩) (wf fs a).ps.length (wf fs a).ps.length) ∧ w.cell? ⟨P a, 35, none⟩ = some (.slice (some ⟨R a, 0, none⟩) (wf fs a).rs.length (wf fs a).rs.length) ∧
    w.cell? ⟨P a, 63, none⟩ = some (.int .u32 (fl (wf fs a).css)) ∧ P a < w.heap.size := by
  obtain ⟨cs, k1, k2, k3, k4⟩ := h.p a ha
  exact ⟨(k1.cell _).trans k2, (k1.cell _).trans k3, (k1.cell _).trans k4, k1.lt⟩
theorem St.rcell (h : St w C O F P R T fs ig d) {a j : Nat} (ha : a < fs.length) (hj : j < (wf fs a).rs.length) : w.cell? ⟨R a, j * 15 + 10, none⟩ = some (.int .u32 (fl (rc (wf fs a).rs j).tg)) ∧ w.cell? ⟨R a, j * 15 + 12, none⟩ = some (.int .u16 (exf (rc (wf fs a).rs j).ex)) ∧
    w.cell? ⟨R a, j * 15 + 14, none⟩ = some (.int .u8 (rc (wf fs a).rs j).kd) ∧ R a < w.heap.size := by
  obtain ⟨cs, k1, k2⟩ := h.r a ha
  obtain ⟨q1, q2, q3⟩ := k2 j hj
  exact ⟨(k1.cell _).trans q1, (k1.cell _).trans q2, (k1.cell _).trans q3, k1.lt⟩
theorem St.tcell (h : St w C O F P R T fs ig d) {a j : Nat} (ha : a < fs.length) (hj : j < (wf fs a).ps.length) : ∃ ib db, (∀ i, i < 11 → w.cell? ⟨T a, j * 11 + i, none⟩ = (rowP ib db (pt (wf fs a).ps j) (d (cp a j)))[i]?) ∧ DRow w ib db (pt (wf fs a).ps j) ∧ T a < w.heap.size ∧ ∀ i, w.frozen? ⟨T a, i, none⟩ = false := by
  obtain ⟨cs, k1, k2, k3⟩ := h.t a ha
  obtain ⟨ib, db, q1, q2⟩ := k3 j hj
  exact ⟨ib, db, fun i hi => (k1.cell _).trans (q1 i hi), q2, k1.lt, fun i => k1.free i⟩
/-- the rows of a part are where they were -/
theorem DRow.ext {ib db : Nat} {p : Pt} (h : DRow w ib db p) (hs : St w C O F P R T fs ig d) (he : Ext F T fs.length w w') : DRow w' ib db p := by
  obtain ⟨⟨cs, k1, k2⟩, ⟨ds, k3, k4⟩⟩ := h
  obtain ⟨f1, f2, _⟩ := hs.f
  refine ⟨⟨cs, (he.block ib k1.lt (blk_ne k1 f2 (by decide)) (fun v hv => ?_)).trans k1, k2⟩, ⟨ds, (he.block db k3.lt (blk_ne k3 f2 (by decide)) (fun v hv => ?_)).trans k3, k4⟩⟩
  · obtain ⟨t1, t2, _⟩ := hs.t v hv
    exact blk_ne k1 t2 (by decide)
  · obtain ⟨t1, t2, _⟩ := hs.t v hv
    exact blk_ne k3 t2 (by decide)
end
end Go.Proofs.Ytebecbidodnneaa
