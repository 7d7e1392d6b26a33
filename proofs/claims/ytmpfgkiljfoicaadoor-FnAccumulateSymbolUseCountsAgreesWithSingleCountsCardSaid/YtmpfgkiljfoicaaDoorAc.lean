/-
  AccumulateSymbolCount: what it keeps and what it does. No statement of the seat is proved here.
-/
import Derived.Test.YtmpfgkiljfoicaaDoorSl
namespace Go.Proofs.YtmpfgkiljfoicaaDoor
open Go.RowKit
set_option linter.unusedVariables false
set_option linter.unusedSimpArgs false

/-- between w and w' nothing that was there has turned, but at the blocks of L -/
structure Kp (w w' : World) (L : Nat → Prop) : Prop where
  os : w'.os = w.os
  tape : w'.tape = w.tape
  output : w'.output = w.output
  size : w.heap.size ≤ w'.heap.size
  block : ∀ i, i < w.heap.size → ¬ L i → w'.heap[i]? = w.heap[i]?
theorem Kp.refl (w : World) (L : Nat → Prop) : Kp w w L := ⟨rfl, rfl, rfl, Nat.le_refl _, fun _ _ _ => rfl⟩
theorem Kp.of {w w' : World} {r : Option Nat} {L : Nat → Prop} (h : w.grownBy w' r) (hL : ∀ g, r = some g → L g ∨ w.heap.size ≤ g) : Kp w w' L :=
  ⟨h.os, h.tape, h.output, h.size, fun i hi hn => h.block i hi (fun e => (hL i e.symm).elim hn (by omega))⟩
theorem Kp.then {a b c : World} {L M : Nat → Prop} (h : Kp a b L) (k : Kp b c M) (hM : ∀ i, i < a.heap.size → M i → L i) : Kp a c L :=
  ⟨k.os.trans h.os, k.tape.trans h.tape, k.output.trans h.output, Nat.le_trans h.size k.size, fun i hi hn => (k.block i (Nat.lt_of_lt_of_le hi h.size) (fun hm => hn (hM i hi hm))).trans (h.block i hi hn)⟩
theorem Kp.blk {w w' : World} {L : Nat → Prop} (h : Kp w w' L) {b : Nat} {t : TypeId} {cs : Array Value} (hb : Blk w b t cs) (hn : ¬ L b) : Blk w' b t cs := (h.block b hb.lt hn).trans hb

/-- the renamer, its table, the array that is filled -/
structure St (m : Pm) (w : World) (B R T S A X g0 g1 : Nat) (kc : Array Value) (v0 v2 v3 vm v : Value) (L : List Nat) : Prop where
  blk : Blk w R 56 #[v0, .slice (some ⟨g0, 0, none⟩) m.c m.c, .slice (some ⟨g1, 0, none⟩) m.c m.c, v2, v3, vm, .slice (some ⟨T, 0, none⟩) 1 1]
  s0 : SlAt m w B g0 0 L
  s1 : SlAt m w B g1 1 L
  ne : g0 ≠ g1
  sy : Sy w T S 1 m.n kc m.root m.rk
  iv : Iv w
  var : Blk w A 43 #[v]
  own : w.ownsRow B 91 4 v (m.es L).length (m.fl L)
  x : Blk w X 24 #[.int .u32 m.st]
  le : 0 < B ∧ B ≤ S ∧ B ≤ T ∧ B ≤ A ∧ B ≤ R
section
variable {m : Pm} {w w' : World} {B R T S A X g0 g1 : Nat} {kc : Array Value} {v0 v2 v3 vm v : Value} {L : List Nat}
theorem St.row (h : St m w B R T S A X g0 g1 kc v0 v2 v3 vm v L) {g : Nat} (hg : v.ownBlock = some g) : B ≤ g ∧ ∃ cur, Blk w g 91 cur := by
  rcases h.own.2 with ⟨e, _⟩ | ⟨g', cap, cur, hv, hB, hh, _⟩
  · rw [e] at hg; cases hg
  · rw [hv] at hg
    have e : g' = g := by simpa [Value.ownBlock] using hg
    subst e
    exact ⟨hB, cur, hh⟩
theorem St.gb (h : St m w B R T S A X g0 g1 kc v0 v2 v3 vm v L) {r : Option Nat} (hg : w.grownBy w' r) (hr : ∀ g, r = some g → R ≠ g ∧ T ≠ g ∧ S ≠ g ∧ A ≠ g ∧ X ≠ g ∧ g0 ≠ g ∧ g1 ≠ g ∧ 0 ≠ g ∧ v.ownBlock ≠ some g) :
    St m w' B R T S A X g0 g1 kc v0 v2 v3 vm v L := by
  have q : ∀ {b : Nat}, (∀ g, r = some g → b ≠ g) → some b ≠ r := fun hb e => hb _ e.symm rfl
  refine ⟨h.blk.gb hg (q fun g e => (hr g e).1), h.s0.gb hg (q fun g e => (hr g e).2.2.2.2.2.1), h.s1.gb hg (q fun g e => (hr g e).2.2.2.2.2.2.1), h.ne, h.sy.gb hg (q fun g e => (hr g e).2.1) (q fun g e => (hr g e).2.2.1), h.iv.gb hg (q fun g e => (hr g e).2.2.2.2.2.2.2.1),
    h.var.gb hg (q fun g e => (hr g e).2.2.2.1), World.ownsRow.kept h.own hg ?_, h.x.gb hg (q fun g e => (hr g e).2.2.2.2.1), h.le⟩
  by_cases e : v.ownBlock = none
  · exact .inl e
  · refine .inr (fun e2 => ?_)
    obtain ⟨g, hgg⟩ : ∃ g, v.ownBlock = some g := by cases hv : v.ownBlock with | none => exact absurd hv e | some g => exact ⟨g, rfl⟩
    exact (hr g (by rw [← e2, hgg])).2.2.2.2.2.2.2.2 hgg
theorem St.grow (h : St m w B R T S A X g0 g1 kc v0 v2 v3 vm v L) (hg : w.grownBy w' none) : St m w' B R T S A X g0 g1 kc v0 v2 v3 vm v L := h.gb hg (fun g e => by cases e)
theorem St.far (h : St m w B R T S A X g0 g1 kc v0 v2 v3 vm v L) {g : Nat} {t : TypeId} {cs : Array Value} (hb : Blk w g t cs) (ht : t ≠ 56 ∧ t ≠ 57 ∧ t ≠ 67 ∧ t ≠ 43 ∧ t ≠ 24 ∧ t ≠ 84 ∧ t ≠ 91) (h0 : 0 ≠ g) : R ≠ g ∧ T ≠ g ∧ S ≠ g ∧ A ≠ g ∧ X ≠ g ∧ g0 ≠ g ∧ g1 ≠ g ∧ 0 ≠ g ∧ v.ownBlock ≠ some g := by
  obtain ⟨ts, cs, q1, q2, q3, q4, q5, q6⟩ := h.sy.out
  refine ⟨blk_ne h.blk hb (Ne.symm ht.1), blk_ne q1 hb (Ne.symm ht.2.1), blk_ne q5 hb (Ne.symm ht.2.2.1), blk_ne h.var hb (Ne.symm ht.2.2.2.1), blk_ne h.x hb (Ne.symm ht.2.2.2.2.1), h.s0.ne hb ht.2.2.2.2.2.1, h.s1.ne hb ht.2.2.2.2.2.1, h0, fun e => ?_⟩
  obtain ⟨_, cur, hc⟩ := h.row e
  exact blk_ne hc hb (Ne.symm ht.2.2.2.2.2.2) rfl
theorem St.follow (h : St m w B R T S A X g0 g1 kc v0 v2 v3 vm v L) (hs : Sy w' T S 1 m.n kc m.root m.rk) (hg : w.grownBy w' (some S)) : St m w' B R T S A X g0 g1 kc v0 v2 v3 vm v L := by
  obtain ⟨ts, cs, q1, q2, q3, q4, q5, q6⟩ := h.sy.out
  have nR : ∀ {x y : Nat}, x ≠ y → some x ≠ some y := fun h e => h (Option.some.inj e)
  refine ⟨h.blk.gb hg (nR (blk_ne h.blk q5 (by decide))), h.s0.gb hg (nR (h.s0.ne q5 (by decide))), h.s1.gb hg (nR (h.s1.ne q5 (by decide))), h.ne, hs, h.iv.gb hg (nR (by have := h.le; omega)), h.var.gb hg (nR (blk_ne h.var q5 (by decide))), World.ownsRow.kept h.own hg ?_, h.x.gb hg (nR (blk_ne h.x q5 (by decide))), h.le⟩
  by_cases e : v.ownBlock = some S
  · obtain ⟨_, cur, hc⟩ := h.row e
    exact absurd rfl (blk_ne hc q5 (by decide))
  · exact .inr e
theorem St.box (h : St m w B R T S A X g0 g1 kc v0 v2 v3 vm v L) {g : Nat} {t : TypeId} {cs : Array Value} (hb : Blk w g t cs) (ht : t ≠ 56 ∧ t ≠ 57 ∧ t ≠ 67 ∧ t ≠ 43 ∧ t ≠ 24 ∧ t ≠ 84 ∧ t ≠ 91) (h0 : 0 ≠ g) (hg : w.grownBy w' (some g)) :
    St m w' B R T S A X g0 g1 kc v0 v2 v3 vm v L := h.gb hg (fun g' e => by cases e; exact h.far hb ht h0)
theorem St.apart (h : St m w B R T S A X g0 g1 kc v0 v2 v3 vm v L) {g : Nat} (hg : g = g0 ∨ g = g1) : R ≠ g ∧ T ≠ g ∧ S ≠ g ∧ A ≠ g ∧ X ≠ g ∧ 0 ≠ g ∧ v.ownBlock ≠ some g := by
  obtain ⟨ts, cs, q1, q2, q3, q4, q5, q6⟩ := h.sy.out
  have hs : ∃ a, SlAt m w B g a L := hg.elim (fun e => by subst e; exact ⟨_, h.s0⟩) (fun e => by subst e; exact ⟨_, h.s1⟩)
  obtain ⟨a, hs⟩ := hs
  obtain ⟨cur, hB, hc, _⟩ := id hs
  refine ⟨Ne.symm (hs.ne h.blk (by decide)), Ne.symm (hs.ne q1 (by decide)), Ne.symm (hs.ne q5 (by decide)), Ne.symm (hs.ne h.var (by decide)), Ne.symm (hs.ne h.x (by decide)), by have := h.le; omega, fun e => ?_⟩
  obtain ⟨_, cur', hc'⟩ := h.row e
  exact blk_ne hc' hc (by decide) rfl
/-- a slot's cells are stored -/
theorem St.slots (h : St m w B R T S A X g0 g1 kc v0 v2 v3 vm v L) {g t : Nat} (hgg : g = g0 ∨ g = g1) (hg : w.grownBy w' (some g)) (h0 : SlAt m w' B g0 0 (L ++ [t])) (h1 : SlAt m w' B g1 1 (L ++ [t])) (hl : m.lst t = false) :
    St m w' B R T S A X g0 g1 kc v0 v2 v3 vm v (L ++ [t]) := by
  have ap := h.apart hgg
  have nR : ∀ {x y : Nat}, x ≠ y → some x ≠ some y := fun h e => h (Option.some.inj e)
  have he : m.es (L ++ [t]) = m.es L := by rw [m.es_snoc]; simp [hl]
  have hf : m.fl (L ++ [t]) = m.fl L := by rw [m.fl_snoc]; simp [hl]
  exact ⟨h.blk.gb hg (nR ap.1), h0, h1, h.ne, h.sy.gb hg (nR ap.2.1) (nR ap.2.2.1), h.iv.gb hg (nR ap.2.2.2.2.2.1), h.var.gb hg (nR ap.2.2.2.1), by rw [he, hf]; exact World.ownsRow.kept h.own hg (.inr ap.2.2.2.2.2.2), h.x.gb hg (nR ap.2.2.2.2.1), h.le⟩
/-- a pinned symbol -/
theorem St.skip (h : St m w B R T S A X g0 g1 kc v0 v2 v3 vm v L) {t : Nat} (h0 : ∀ j, j < m.c → m.hit 0 j t = false) (h1 : ∀ j, j < m.c → m.hit 1 j t = false) (hl : m.lst t = false) : St m w B R T S A X g0 g1 kc v0 v2 v3 vm v (L ++ [t]) := by
  have he : m.es (L ++ [t]) = m.es L := by rw [m.es_snoc]; simp [hl]
  have hf : m.fl (L ++ [t]) = m.fl L := by rw [m.fl_snoc]; simp [hl]
  exact ⟨h.blk, h.s0.skip h0, h.s1.skip h1, h.ne, h.sy, h.iv, h.var, by rw [he, hf]; exact h.own, h.x, h.le⟩
theorem St.app {w1 w6 : World} {g cap k' t : Nat} {ys : List Value} (h : St m w B R T S A X g0 g1 kc v0 v2 v3 vm v L) (h01 : w.grownBy w1 none) (hg : w1.grownBy w6 v.ownBlock) (ho : w6.ownsRow B 91 4 (.slice (some ⟨g, 0, none⟩) k' cap) k' ys)
    (h0 : ∀ j, j < m.c → m.hit 0 j t = false) (hh1 : ∀ j, j < m.c → m.hit 1 j t = false) (hl : m.lst t = true) (hk : k' = (m.es L).length + 1) (hy : ys = m.fl L ++ m.row t) :
    St m (w6.setCell ⟨A, 0, none⟩ (.slice (some ⟨g, 0, none⟩) k' cap)) B R T S A X g0 g1 kc v0 v2 v3 vm (.slice (some ⟨g, 0, none⟩) k' cap) (L ++ [t]) := by
  have he : (m.es (L ++ [t])).length = k' := by rw [m.es_snoc]; simp [hl, hk]
  have hf : m.fl (L ++ [t]) = ys := by rw [m.fl_snoc]; simp [hl, hy]
  have h1 := h.grow h01
  obtain ⟨ts, cs, q1, q2, q3, q4, q5, q6⟩ := h1.sy.out
  have hset : w6.grownBy (w6.setCell ⟨A, 0, none⟩ (.slice (some ⟨g, 0, none⟩) k' cap)) (some A) := gb_set (gb_refl _ _) _ _ _
  have nR : ∀ {x y : Nat}, x ≠ y → some x ≠ some y := fun h e => h (Option.some.inj e)
  have nv : ∀ {b : Nat} {t : TypeId} {cs : Array Value}, Blk w1 b t cs → t ≠ 91 → some b ≠ v.ownBlock := fun hb ht e => by
    obtain ⟨_, cur, hc⟩ := h1.row e.symm
    exact blk_ne hc hb (Ne.symm ht) rfl
  have nvs : ∀ {b : Nat} {a : Int} {L : List Nat}, SlAt m w1 B b a L → some b ≠ v.ownBlock := fun hb e => by
    obtain ⟨cur, _, hc, _⟩ := hb
    exact nv hc (by decide) e
  have n0 : some 0 ≠ v.ownBlock := fun e => by
    have := (h1.row e.symm).1
    have := h.le
    omega
  have hv6 := h1.var.gb hg (nv h1.var (by decide))
  have hgA : g ≠ A := by
    rcases ho.2 with ⟨e, _⟩ | ⟨g', cap', cur, hv, _, hh, _⟩
    · cases e
    · have e : g' = g := by simp at hv; omega
      subst e
      exact blk_ne hh hv6 (by decide)
  exact ⟨(h1.blk.gb hg (nv h1.blk (by decide))).gb hset (nR (blk_ne h1.blk h1.var (by decide))), ((h1.s0.gb hg (nvs h1.s0)).gb hset (nR (h1.s0.ne h1.var (by decide)))).skip h0, ((h1.s1.gb hg (nvs h1.s1)).gb hset (nR (h1.s1.ne h1.var (by decide)))).skip hh1, h.ne,
    (h1.sy.gb hg (nv q1 (by decide)) (nv q5 (by decide))).gb hset (nR (blk_ne q1 h1.var (by decide))) (nR (blk_ne q5 h1.var (by decide))), (h1.iv.gb hg n0).gb hset (nR (by have := h.le; omega)), hv6.set 0 _, by rw [he, hf]; exact World.ownsRow.kept ho hset (.inr (by simpa [Value.ownBlock] using hgA)), (h1.x.gb hg (nv h1.x (by decide))).gb hset (nR (blk_ne h1.x h1.var (by decide))), h.le⟩
end
/-- what the table holds for good -/
def Kc (m : Pm) (kc : Array Value) : Prop := ∀ i, i < m.n → kc[i * 10]? = some (.pointer none) ∧ kc[i * 10 + 6]? = some (.int .u32 (m.nx i)) ∧ kc[i * 10 + 7]? = some (.int .u16 (m.fg i)) ∧ kc[i * 10 + 8]? = some (.int .u8 (m.kd i))
def LL (S g0 g1 A : Nat) (v : Value) (i : Nat) : Prop := i = S ∨ i = g0 ∨ i = g1 ∨ i = A ∨ v.ownBlock = some i
def AcP (m : Pm) (w : World) (B R T S A X g0 g1 : Nat) (kc : Array Value) (v0 v2 v3 vm v : Value) (L : List Nat) (t : Nat) (e : Ending) (w' : World) : Prop :=
  e = .returned (.tuple #[]) ∧ Kp w w' (LL S g0 g1 A v) ∧ ∃ v', (v' = v ∨ v'.ownBlock = v.ownBlock ∨ ∃ g, v'.ownBlock = some g ∧ w.heap.size ≤ g) ∧ St m w' B R T S A X g0 g1 kc v0 v2 v3 vm v' (L ++ [t])
end Go.Proofs.YtmpfgkiljfoicaaDoor
