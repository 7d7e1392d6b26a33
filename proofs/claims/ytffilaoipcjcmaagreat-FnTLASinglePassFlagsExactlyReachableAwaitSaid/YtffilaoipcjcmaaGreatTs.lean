/-
  The graph of results in memory: what a validation reads and turns. No statement of the seat is proved here.
-/
import Derived.Test.YtffilaoipcjcmaaGreatSm
import Derived.Test.YtffilaoipcjcmaaGreatGm
import Derived.Deep.CutBlock
namespace Go.Proofs.YtffilaoipcjcmaaGreat
open Go.RowKit
set_option linter.unusedVariables false
set_option linter.unusedSimpArgs false

def rowL (k x : Int) : List Value := [.pointer none, .pointer none, .string ⟨#[]⟩, .string ⟨#[]⟩, .string ⟨#[]⟩, .string ⟨#[]⟩, .int .u8 0, .int .i32 0, .int .i32 0, .int .i32 0, .int .u32 x, .int .u32 0, .int .u16 0, .int .u8 0, .int .u8 k]
theorem blk_ne {w : World} {a b : Nat} {t u : TypeId} {cs ds : Array Value} (h : Blk w a t cs) (k : Blk w b u ds) (hne : t ≠ u) : a ≠ b := fun e => by
  unfold Blk at h k
  rw [e, k] at h
  have h3 := Option.some.inj h
  rw [Obj.cells.injEq] at h3
  exact hne h3.2.1.symm
/-- the records of a file -/
def Rw (w : World) (ao : Option Addr) (g : Gx) (es : List Nat) : Prop :=
  es = [] ∨ ∃ r cs, ao = some ⟨r, 0, none⟩ ∧ Blk w r 63 cs ∧ ∀ j, j < es.length → ∀ i, i < 15 → cs[j * 15 + i]? = (rowL (kdv g (eat es j)) (flx g (eat es j)))[i]?
theorem Rw.gb {w w' : World} {ao : Option Addr} {g : Gx} {es : List Nat} {A : Nat} {t : TypeId} {cs : Array Value} (h : Rw w ao g es) (hb : Blk w A t cs) (ht : (63 : TypeId) ≠ t) (hg : w.grownBy w' (some A)) : Rw w' ao g es := by
  rcases h with h | ⟨r, rs, h1, h2, h3⟩
  · exact .inl h
  · exact .inr ⟨r, rs, h1, h2.gb hg (fun e => blk_ne h2 hb ht (Option.some.inj e)), h3⟩
theorem Rw.grow {w w' : World} {ao : Option Addr} {g : Gx} {es : List Nat} (h : Rw w ao g es) (hg : w.grownBy w' none) : Rw w' ao g es := by
  rcases h with h | ⟨r, rs, h1, h2, h3⟩
  · exact .inl h
  · exact .inr ⟨r, rs, h1, h2.gb hg (by simp), h3⟩
/-- one file's repr: await, records -/
def Pw (w : World) (p : Nat) (ao : Option Addr) (cap : Nat) (g : Gx) (v : Nat) : Prop :=
  ∃ cs, Blk w p 193 cs ∧ cs[47]? = some (.int .i32 (tlen g v)) ∧ cs[35]? = some (.slice ao (esv g v (mE g)).length cap)
theorem Pw.gb {w w' : World} {p cap : Nat} {ao : Option Addr} {g : Gx} {v : Nat} {A : Nat} {t : TypeId} {cs : Array Value} (h : Pw w p ao cap g v) (hb : Blk w A t cs) (ht : (193 : TypeId) ≠ t) (hg : w.grownBy w' (some A)) : Pw w' p ao cap g v := by
  obtain ⟨ds, h1, h2⟩ := h
  exact ⟨ds, h1.gb hg (fun e => blk_ne h1 hb ht (Option.some.inj e)), h2⟩
theorem Pw.grow {w w' : World} {p cap : Nat} {ao : Option Addr} {g : Gx} {v : Nat} (h : Pw w p ao cap g v) (hg : w.grownBy w' none) : Pw w' p ao cap g v := by
  obtain ⟨ds, h1, h2⟩ := h
  exact ⟨ds, h1.gb hg (by simp), h2⟩
/-- the cells of one result -/
structure Fc (cs : Array Value) (g : Gx) (P : Nat → Nat) (p : Int) (v : Nat) (dv : Bool) (pa de re : Int) : Prop where
  ok : cs[v * 27 + 26]? = some (.bool (prs g v))
  rp : prs g v = true → cs[v * 27 + 4]? = some (.iface 159 (.pointer (some ⟨P v, 0, none⟩)))
  pa : cs[v * 27 + 22]? = some (.int .u32 (4294967295 - pa))
  de : cs[v * 27 + 23]? = some (.int .u32 (4294967295 - de))
  ps : cs[v * 27 + 24]? = some (.int .u32 (if dv = true then p else 0))
  re : cs[v * 27 + 25]? = some (.int .u32 re)
theorem Fc.off {cs : Array Value} {g : Gx} {P : Nat → Nat} {p : Int} {v a k : Nat} {dv : Bool} {pa de re : Int} (h : Fc cs g P p v dv pa de re) (hne : v ≠ a) (hk : k < 27) (x : Value) : Fc (cs.setIfInBounds (a * 27 + k) x) g P p v dv pa de re := by
  obtain ⟨h1, h2, h3, h4, h5, h6⟩ := h
  refine ⟨?_, fun hp => ?_, ?_, ?_, ?_, ?_⟩
  · rw [Array.getElem?_setIfInBounds_ne (by omega)]; exact h1
  · rw [Array.getElem?_setIfInBounds_ne (by omega)]; exact h2 hp
  · rw [Array.getElem?_setIfInBounds_ne (by omega)]; exact h3
  · rw [Array.getElem?_setIfInBounds_ne (by omega)]; exact h4
  · rw [Array.getElem?_setIfInBounds_ne (by omega)]; exact h5
  · rw [Array.getElem?_setIfInBounds_ne (by omega)]; exact h6
/-- what a validation does not turn: the scanner, the reprs, their records -/
structure Sk (w : World) (S F : Nat) (P : Nat → Nat) (A : Nat → Option Addr) (K : Nat → Nat) (g : Gx) : Prop where
  s : ∃ cs, Blk w S 156 cs ∧ cs[11]? = some (.slice (some ⟨F, 0, none⟩) g.ts.length g.ts.length)
  p : ∀ v, v < g.ts.length → prs g v = true → Pw w (P v) (A v) (K v) g v
  r : ∀ v, v < g.ts.length → prs g v = true → Rw w (A v) g (esv g v (mE g))
theorem Sk.grow {w w' : World} {S F : Nat} {P : Nat → Nat} {A : Nat → Option Addr} {K : Nat → Nat} {g : Gx} (h : Sk w S F P A K g) (hg : w.grownBy w' none) : Sk w' S F P A K g := by
  obtain ⟨cs, h1, h2⟩ := h.s
  exact ⟨⟨cs, h1.gb hg (by simp), h2⟩, fun v hv hp => (h.p v hv hp).grow hg, fun v hv hp => (h.r v hv hp).grow hg⟩
theorem Sk.gb {w w' : World} {S F : Nat} {P : Nat → Nat} {A : Nat → Option Addr} {K : Nat → Nat} {g : Gx} {B : Nat} {t : TypeId} {bs : Array Value} (h : Sk w S F P A K g) (hb : Blk w B t bs) (h1 : (156 : TypeId) ≠ t) (h2 : (193 : TypeId) ≠ t) (h3 : (63 : TypeId) ≠ t) (hg : w.grownBy w' (some B)) : Sk w' S F P A K g := by
  obtain ⟨cs, k1, k2⟩ := h.s
  exact ⟨⟨cs, k1.gb hg (fun e => blk_ne k1 hb h1 (Option.some.inj e)), k2⟩, fun v hv hp => (h.p v hv hp).gb hb h2 hg, fun v hv hp => (h.r v hv hp).gb hb h3 hg⟩
/-- the graph in memory: S the scanner, F its results, C the flag; d the marks (pass p), parents, depths, records -/
structure St (w : World) (S F C : Nat) (P : Nat → Nat) (A : Nat → Option Addr) (K : Nat → Nat) (g : Gx) (p : Int) (d : Nat → Bool) (Pa De Re : Nat → Int) (dc : Bool) : Prop where
  k : Sk w S F P A K g
  c : Blk w C 4 #[.bool dc]
  f : ∃ cs, Blk w F 90 cs ∧ cs.size = g.ts.length * 27 ∧ ∀ v, v < g.ts.length → Fc cs g P p v (d v) (Pa v) (De v) (Re v)
/-- but the blocks F and C, all is as it was -/
structure Ext (F C : Nat) (w w' : World) : Prop where
  os : w'.os = w.os
  tape : w'.tape = w.tape
  output : w'.output = w.output
  size : w.heap.size ≤ w'.heap.size
  block : ∀ i, i < w.heap.size → i ≠ F → i ≠ C → w'.heap[i]? = w.heap[i]?
section
variable {w w' : World} {S F C : Nat} {P : Nat → Nat} {A : Nat → Option Addr} {K : Nat → Nat} {g : Gx} {p : Int} {d : Nat → Bool} {Pa De Re : Nat → Int} {dc : Bool}
theorem Ext.refl (F C : Nat) (w : World) : Ext F C w w := ⟨rfl, rfl, rfl, Nat.le_refl _, fun _ _ _ _ => rfl⟩
theorem Ext.trans {a b c : World} (h : Ext F C a b) (k : Ext F C b c) : Ext F C a c :=
  ⟨k.os.trans h.os, k.tape.trans h.tape, k.output.trans h.output, Nat.le_trans h.size k.size, fun i hi h1 h2 => (k.block i (Nat.lt_of_lt_of_le hi h.size) h1 h2).trans (h.block i hi h1 h2)⟩
theorem Ext.of_gb (h : w.grownBy w' none) : Ext F C w w' := ⟨h.os, h.tape, h.output, h.size, fun i hi _ _ => h.block i hi (by simp)⟩
theorem Ext.setF (i : Nat) (s : Option Nat) (x : Value) : Ext F C w (w.setCell ⟨F, i, s⟩ x) := ⟨rfl, rfl, rfl, by simp [World.setCell], fun k _ h1 _ => Below.heap_setCell _ _ _ _ h1⟩
theorem Ext.setC (i : Nat) (s : Option Nat) (x : Value) : Ext F C w (w.setCell ⟨C, i, s⟩ x) := ⟨rfl, rfl, rfl, by simp [World.setCell], fun k _ _ h1 => Below.heap_setCell _ _ _ _ h1⟩
theorem Ext.below {B : Nat} (h : Ext F C w w') (hB : B ≤ w.heap.size) (hF : B ≤ F) (hC : B ≤ C) : Below B w w' :=
  ⟨h.os, h.tape, h.output, h.size, fun i hi => h.block i (by omega) (by omega) (by omega)⟩
theorem St.gb (h : St w S F C P A K g p d Pa De Re dc) (hg : w.grownBy w' none) : St w' S F C P A K g p d Pa De Re dc := by
  obtain ⟨cs, h1, h2⟩ := h.f
  exact ⟨h.k.grow hg, h.c.gb hg (by simp), ⟨cs, h1.gb hg (by simp), h2⟩⟩
theorem St.dcs (h : St w S F C P A K g p d Pa De Re dc) (b : Bool) : St (w.setCell ⟨C, 0, none⟩ (.bool b)) S F C P A K g p d Pa De Re b := by
  have hg : w.grownBy (w.setCell ⟨C, 0, none⟩ (.bool b)) (some C) := gb_set (gb_refl _ _) _ _ _
  obtain ⟨cs, h1, h2⟩ := h.f
  have hc := h.c.set 0 (.bool b)
  exact ⟨h.k.gb h.c (by decide) (by decide) (by decide) hg, by simpa using hc, ⟨cs, h1.gb hg (fun e => blk_ne h1 h.c (by decide) (Option.some.inj e)), h2⟩⟩
theorem St.fset (h : St w S F C P A K g p d Pa De Re dc) {a : Nat} (ha : a < g.ts.length) {k : Nat} (hk : k < 27) (x : Value) {d' : Nat → Bool} {Pa' De' Re' : Nat → Int}
    (ho : ∀ v, v ≠ a → d' v = d v ∧ Pa' v = Pa v ∧ De' v = De v ∧ Re' v = Re v)
    (hn : ∀ cs : Array Value, a * 27 + 27 ≤ cs.size → Fc cs g P p a (d a) (Pa a) (De a) (Re a) → Fc (cs.setIfInBounds (a * 27 + k) x) g P p a (d' a) (Pa' a) (De' a) (Re' a)) : St (w.setCell ⟨F, a * 27 + k, none⟩ x) S F C P A K g p d' Pa' De' Re' dc := by
  obtain ⟨cs, h1, h2, h3⟩ := h.f
  have hg : w.grownBy (w.setCell ⟨F, a * 27 + k, none⟩ x) (some F) := gb_set (gb_refl _ _) _ _ _
  refine ⟨h.k.gb h1 (by decide) (by decide) (by decide) hg, h.c.gb hg (fun e => blk_ne h.c h1 (by decide) (Option.some.inj e)), ⟨_, h1.set _ x, by simp [h2], fun v hv => ?_⟩⟩
  by_cases e : v = a
  · subst e; exact hn cs (by omega) (h3 v hv)
  · obtain ⟨o1, o2, o3, o4⟩ := ho v e
    rw [o1, o2, o3, o4]
    exact (h3 v hv).off e hk x
theorem St.mark (h : St w S F C P A K g p d Pa De Re dc) {a : Nat} (ha : a < g.ts.length) : St (w.setCell ⟨F, a * 27 + 24, none⟩ (.int .u32 p)) S F C P A K g p (fun v => d v || v == a) Pa De Re dc :=
  h.fset ha (by omega) _ (fun v hv => ⟨by simp [hv], rfl, rfl, rfl⟩) (fun cs hs ⟨h1, h2, h3, h4, h5, h6⟩ => ⟨by rw [Array.getElem?_setIfInBounds_ne (by omega)]; exact h1, fun hp => by rw [Array.getElem?_setIfInBounds_ne (by omega)]; exact h2 hp, by rw [Array.getElem?_setIfInBounds_ne (by omega)]; exact h3, by rw [Array.getElem?_setIfInBounds_ne (by omega)]; exact h4, by rw [Array.getElem?_setIfInBounds_self_of_lt (by omega)]; simp, by rw [Array.getElem?_setIfInBounds_ne (by omega)]; exact h6⟩)
theorem St.par (h : St w S F C P A K g p d Pa De Re dc) {a : Nat} (ha : a < g.ts.length) (x : Int) : St (w.setCell ⟨F, a * 27 + 22, none⟩ (.int .u32 (4294967295 - x))) S F C P A K g p d (put Pa a x) De Re dc :=
  h.fset ha (by omega) _ (fun v hv => ⟨rfl, put_ne hv, rfl, rfl⟩) (fun cs hs ⟨h1, h2, h3, h4, h5, h6⟩ => ⟨by rw [Array.getElem?_setIfInBounds_ne (by omega)]; exact h1, fun hp => by rw [Array.getElem?_setIfInBounds_ne (by omega)]; exact h2 hp, by rw [put_same, Array.getElem?_setIfInBounds_self_of_lt (by omega)], by rw [Array.getElem?_setIfInBounds_ne (by omega)]; exact h4, by rw [Array.getElem?_setIfInBounds_ne (by omega)]; exact h5, by rw [Array.getElem?_setIfInBounds_ne (by omega)]; exact h6⟩)
theorem St.dep (h : St w S F C P A K g p d Pa De Re dc) {a : Nat} (ha : a < g.ts.length) (x : Int) : St (w.setCell ⟨F, a * 27 + 23, none⟩ (.int .u32 (4294967295 - x))) S F C P A K g p d Pa (put De a x) Re dc :=
  h.fset ha (by omega) _ (fun v hv => ⟨rfl, rfl, put_ne hv, rfl⟩) (fun cs hs ⟨h1, h2, h3, h4, h5, h6⟩ => ⟨by rw [Array.getElem?_setIfInBounds_ne (by omega)]; exact h1, fun hp => by rw [Array.getElem?_setIfInBounds_ne (by omega)]; exact h2 hp, by rw [Array.getElem?_setIfInBounds_ne (by omega)]; exact h3, by rw [put_same, Array.getElem?_setIfInBounds_self_of_lt (by omega)], by rw [Array.getElem?_setIfInBounds_ne (by omega)]; exact h5, by rw [Array.getElem?_setIfInBounds_ne (by omega)]; exact h6⟩)
theorem St.rec_ (h : St w S F C P A K g p d Pa De Re dc) {a : Nat} (ha : a < g.ts.length) (x : Int) : St (w.setCell ⟨F, a * 27 + 25, none⟩ (.int .u32 x)) S F C P A K g p d Pa De (put Re a x) dc :=
  h.fset ha (by omega) _ (fun v hv => ⟨rfl, rfl, rfl, put_ne hv⟩) (fun cs hs ⟨h1, h2, h3, h4, h5, h6⟩ => ⟨by rw [Array.getElem?_setIfInBounds_ne (by omega)]; exact h1, fun hp => by rw [Array.getElem?_setIfInBounds_ne (by omega)]; exact h2 hp, by rw [Array.getElem?_setIfInBounds_ne (by omega)]; exact h3, by rw [Array.getElem?_setIfInBounds_ne (by omega)]; exact h4, by rw [Array.getElem?_setIfInBounds_ne (by omega)]; exact h5, by rw [put_same, Array.getElem?_setIfInBounds_self_of_lt (by omega)]⟩)
/-- the cells of file a -/
structure Cl (w : World) (S F C : Nat) (P : Nat → Nat) (A : Nat → Option Addr) (K : Nat → Nat) (g : Gx) (p : Int) (a : Nat) (dv dc : Bool) (pa de re : Int) : Prop where
  s : w.cell? ⟨S, 11, none⟩ = some (.slice (some ⟨F, 0, none⟩) g.ts.length g.ts.length)
  ls : S < w.heap.size
  ok : w.cell? ⟨F, a * 27 + 26, none⟩ = some (.bool (prs g a))
  rp : prs g a = true → w.cell? ⟨F, a * 27 + 4, none⟩ = some (.iface 159 (.pointer (some ⟨P a, 0, none⟩)))
  pa : w.cell? ⟨F, a * 27 + 22, none⟩ = some (.int .u32 (4294967295 - pa))
  de : w.cell? ⟨F, a * 27 + 23, none⟩ = some (.int .u32 (4294967295 - de))
  ps : w.cell? ⟨F, a * 27 + 24, none⟩ = some (.int .u32 (if dv = true then p else 0))
  re : w.cell? ⟨F, a * 27 + 25, none⟩ = some (.int .u32 re)
  lf : F < w.heap.size
  ff : ∀ i, w.frozen? ⟨F, i, none⟩ = false
  c : w.cell? ⟨C, 0, none⟩ = some (.bool dc)
  lc : C < w.heap.size
  fc : w.frozen? ⟨C, 0, none⟩ = false
  tl : prs g a = true → w.cell? ⟨P a, 47, none⟩ = some (.int .i32 (tlen g a))
  rs : prs g a = true → w.cell? ⟨P a, 35, none⟩ = some (.slice (A a) (esv g a (mE g)).length (K a))
  lp : prs g a = true → P a < w.heap.size
theorem St.cl (h : St w S F C P A K g p d Pa De Re dc) {a : Nat} (ha : a < g.ts.length) : Cl w S F C P A K g p a (d a) dc (Pa a) (De a) (Re a) := by
  obtain ⟨cs, h1, h2⟩ := h.k.s
  obtain ⟨fs, k1, k2, k3⟩ := h.f
  have hf := k3 a ha
  refine ⟨(h1.cell _).trans h2, h1.lt, (k1.cell _).trans hf.ok, fun hp => (k1.cell _).trans (hf.rp hp), (k1.cell _).trans hf.pa, (k1.cell _).trans hf.de, (k1.cell _).trans hf.ps, (k1.cell _).trans hf.re, k1.lt, fun i => k1.free i, (h.c.cell 0).trans rfl, h.c.lt, h.c.free 0, fun hp => ?_, fun hp => ?_, fun hp => ?_⟩
  all_goals obtain ⟨ds, q1, q2, q3⟩ := h.k.p a ha hp
  · exact (q1.cell _).trans q2
  · exact (q1.cell _).trans q3
  · exact q1.lt
theorem St.row (h : St w S F C P A K g p d Pa De Re dc) {a j : Nat} (ha : a < g.ts.length) (hp : prs g a = true) (hj : j < (esv g a (mE g)).length) :
    ∃ r, A a = some ⟨r, 0, none⟩ ∧ r < w.heap.size ∧ ∀ i, i < 15 → w.cell? ⟨r, j * 15 + i, none⟩ = (rowL (kdv g (eat (esv g a (mE g)) j)) (flx g (eat (esv g a (mE g)) j)))[i]? := by
  rcases h.k.r a ha hp with h | ⟨r, cs, h1, h2, h3⟩
  · rw [h] at hj; simp at hj
  · exact ⟨r, h1, h2.lt, fun i hi => (h2.cell _).trans (h3 j hj i hi)⟩
theorem St.past (h : St w S F C P A K g p d Pa De Re dc) {B : Nat} {t : TypeId} {bs : Array Value} (hb : Blk w B t bs) (h1 : (156 : TypeId) ≠ t) (h2 : (193 : TypeId) ≠ t) (h3 : (63 : TypeId) ≠ t) (h4 : (4 : TypeId) ≠ t) (h5 : (90 : TypeId) ≠ t) (hg : w.grownBy w' (some B)) : St w' S F C P A K g p d Pa De Re dc := by
  obtain ⟨cs, k1, k2⟩ := h.f
  exact ⟨h.k.gb hb h1 h2 h3 hg, h.c.gb hg (fun e => blk_ne h.c hb h4 (Option.some.inj e)), ⟨cs, k1.gb hg (fun e => blk_ne k1 hb h5 (Option.some.inj e)), k2⟩⟩
theorem Ext.past {wz : World} {B : Nat} (h : Ext F C w wz) (hg : wz.grownBy w' (some B)) (hB : w.heap.size ≤ B) : Ext F C w w' :=
  ⟨hg.os.trans h.os, hg.tape.trans h.tape, hg.output.trans h.output, Nat.le_trans h.size hg.size, fun i hi h1 h2 => (hg.block i (Nat.lt_of_lt_of_le hi h.size) (fun e => by have := Option.some.inj e; omega)).trans (h.block i hi h1 h2)⟩
end
end Go.Proofs.YtffilaoipcjcmaaGreat
