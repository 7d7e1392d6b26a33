/-
  AccumulateSymbolCount: what it keeps and what it does. No statement of the seat is proved here.
-/
import Derived.Test.YtnfjfjcdehohhaaDoorSl
namespace Go.Proofs.YtnfjfjcdehohhaaDoor
open Go.RowKit
set_option linter.unusedVariables false
set_option linter.unusedSimpArgs false

/-- between w and w' nothing that was there has turned, but at the blocks of L -/
structure Kp (w w' : World) (L : Nat → Prop) : Prop where
  os : w'.os = w.os
  tape : w'.tape = w.tape
  output : w'.output = w.output
  size : w.heap.size ≤ w'.heap.size
  block : ∀ i, i < w.heap.size → ¬ L i → w'.heap[i]? = w.heap[i]?
theorem Kp.refl (w : World) (L : Nat → Prop) : Kp w w L := ⟨rfl, rfl, rfl, Nat.le_refl _, fun _ _ _ => rfl⟩
theorem Kp.of {w w' : World} {r : Option Nat} {L : Nat → Prop} (h : w.grownBy w' r) (hL : ∀ g, r = some g → L g ∨ w.heap.size ≤ g) : Kp w w' L :=
  ⟨h.os, h.tape, h.output, h.size, fun i hi hn => h.block i hi (fun e => (hL i e.symm).elim hn (by omega))⟩
theorem Kp.then {a b c : World} {L M : Nat → Prop} (h : Kp a b L) (k : Kp b c M) (hM : ∀ i, i < a.heap.size → M i → L i) : Kp a c L :=
  ⟨k.os.trans h.os, k.tape.trans h.tape, k.output.trans h.output, Nat.le_trans h.size k.size, fun i hi hn => (k.block i (Nat.lt_of_lt_of_le hi h.size) (fun hm => hn (hM i hi hm))).trans (h.block i hi hn)⟩
theorem Kp.blk {w w' : World} {L : Nat → Prop} (h : Kp w w' L) {b : Nat} {t : TypeId} {cs : Array Value} (hb : Blk w b t cs) (hn : ¬ L b) : Blk w' b t cs := (h.block b hb.lt hn).trans hb

/-- the renamer, its table, the array that is filled -/
structure St (w : World) (B R T S A X n g0 g1 c0 c1 : Nat) (kc : Array Value) (v2 v3 vm : Value) (st : Int) (v : Value) (k : Nat) (xs : List Value) : Prop where
  blk : Blk w R 74 #[.map none, .slice (some ⟨g0, 0, none⟩) c0 c0, .slice (some ⟨g1, 0, none⟩) c1 c1, v2, v3, vm, .slice (some ⟨T, 0, none⟩) 1 1]
  s0 : SlAt w B g0 c0 c0
  s1 : SlAt w B g1 c1 c1
  ne : g0 ≠ g1
  sy : Sy w T S 1 n kc id (fun _ => 0)
  iv : Iv w
  var : Blk w A 46 #[v]
  own : w.ownsRow B 51 4 v k xs
  x : Blk w X 24 #[.int .u32 st]
  le : 0 < B ∧ B ≤ S ∧ B ≤ T ∧ B ≤ A ∧ B ≤ R
section
variable {w w' : World} {B R T S A X n g0 g1 c0 c1 : Nat} {kc : Array Value} {v2 v3 vm : Value} {st : Int} {v : Value} {k : Nat} {xs : List Value}
theorem St.row (h : St w B R T S A X n g0 g1 c0 c1 kc v2 v3 vm st v k xs) {g : Nat} (hg : v.ownBlock = some g) : B ≤ g ∧ ∃ cur, Blk w g 51 cur := by
  rcases h.own.2 with ⟨e, _⟩ | ⟨g', cap, cur, hv, hB, hh, _⟩
  · rw [e] at hg; cases hg
  · rw [hv] at hg
    have e : g' = g := by simpa [Value.ownBlock] using hg
    subst e
    exact ⟨hB, cur, hh⟩
theorem St.gb (h : St w B R T S A X n g0 g1 c0 c1 kc v2 v3 vm st v k xs) {r : Option Nat} (hg : w.grownBy w' r) (hr : ∀ g, r = some g → R ≠ g ∧ T ≠ g ∧ S ≠ g ∧ A ≠ g ∧ X ≠ g ∧ g0 ≠ g ∧ g1 ≠ g ∧ 0 ≠ g ∧ v.ownBlock ≠ some g) :
    St w' B R T S A X n g0 g1 c0 c1 kc v2 v3 vm st v k xs := by
  have q : ∀ {b : Nat}, (∀ g, r = some g → b ≠ g) → some b ≠ r := fun hb e => hb _ e.symm rfl
  refine ⟨h.blk.gb hg (q fun g e => (hr g e).1), h.s0.gb hg (q fun g e => (hr g e).2.2.2.2.2.1), h.s1.gb hg (q fun g e => (hr g e).2.2.2.2.2.2.1), h.ne, h.sy.gb hg (q fun g e => (hr g e).2.1) (q fun g e => (hr g e).2.2.1), h.iv.gb hg (q fun g e => (hr g e).2.2.2.2.2.2.2.1),
    h.var.gb hg (q fun g e => (hr g e).2.2.2.1), World.ownsRow.kept h.own hg ?_, h.x.gb hg (q fun g e => (hr g e).2.2.2.2.1), h.le⟩
  by_cases e : v.ownBlock = none
  · exact .inl e
  · refine .inr (fun e2 => ?_)
    obtain ⟨g, hgg⟩ : ∃ g, v.ownBlock = some g := by cases hv : v.ownBlock with | none => exact absurd hv e | some g => exact ⟨g, rfl⟩
    exact (hr g (by rw [← e2, hgg])).2.2.2.2.2.2.2.2 hgg
theorem St.grow (h : St w B R T S A X n g0 g1 c0 c1 kc v2 v3 vm st v k xs) (hg : w.grownBy w' none) : St w' B R T S A X n g0 g1 c0 c1 kc v2 v3 vm st v k xs := h.gb hg (fun g e => by cases e)
theorem St.far (h : St w B R T S A X n g0 g1 c0 c1 kc v2 v3 vm st v k xs) {g : Nat} {t : TypeId} {cs : Array Value} (hb : Blk w g t cs) (ht : t ≠ 74 ∧ t ≠ 55 ∧ t ≠ 65 ∧ t ≠ 46 ∧ t ≠ 24 ∧ t ≠ 87 ∧ t ≠ 51) (h0 : 0 ≠ g) : R ≠ g ∧ T ≠ g ∧ S ≠ g ∧ A ≠ g ∧ X ≠ g ∧ g0 ≠ g ∧ g1 ≠ g ∧ 0 ≠ g ∧ v.ownBlock ≠ some g := by
  obtain ⟨ts, cs, q1, q2, q3, q4, q5, q6⟩ := h.sy.out
  refine ⟨blk_ne h.blk hb (Ne.symm ht.1), blk_ne q1 hb (Ne.symm ht.2.1), blk_ne q5 hb (Ne.symm ht.2.2.1), blk_ne h.var hb (Ne.symm ht.2.2.2.1), blk_ne h.x hb (Ne.symm ht.2.2.2.2.1), h.s0.ne hb ht.2.2.2.2.2.1, h.s1.ne hb ht.2.2.2.2.2.1, h0, fun e => ?_⟩
  obtain ⟨_, cur, hc⟩ := h.row e
  exact blk_ne hc hb (Ne.symm ht.2.2.2.2.2.2) rfl
theorem St.follow (h : St w B R T S A X n g0 g1 c0 c1 kc v2 v3 vm st v k xs) (hs : Sy w' T S 1 n kc id (fun _ => 0)) (hg : w.grownBy w' (some S)) : St w' B R T S A X n g0 g1 c0 c1 kc v2 v3 vm st v k xs := by
  obtain ⟨ts, cs, q1, q2, q3, q4, q5, q6⟩ := h.sy.out
  have nR : ∀ {x y : Nat}, x ≠ y → some x ≠ some y := fun h e => h (Option.some.inj e)
  refine ⟨h.blk.gb hg (nR (blk_ne h.blk q5 (by decide))), h.s0.gb hg (nR (h.s0.ne q5 (by decide))), h.s1.gb hg (nR (h.s1.ne q5 (by decide))), h.ne, hs, h.iv.gb hg (nR (by have := h.le; omega)), h.var.gb hg (nR (blk_ne h.var q5 (by decide))), World.ownsRow.kept h.own hg ?_, h.x.gb hg (nR (blk_ne h.x q5 (by decide))), h.le⟩
  by_cases e : v.ownBlock = some S
  · obtain ⟨_, cur, hc⟩ := h.row e
    exact absurd rfl (blk_ne hc q5 (by decide))
  · exact .inr e
theorem St.box (h : St w B R T S A X n g0 g1 c0 c1 kc v2 v3 vm st v k xs) {g : Nat} {t : TypeId} {cs : Array Value} (hb : Blk w g t cs) (ht : t ≠ 74 ∧ t ≠ 55 ∧ t ≠ 65 ∧ t ≠ 46 ∧ t ≠ 24 ∧ t ≠ 87 ∧ t ≠ 51) (h0 : 0 ≠ g) (hg : w.grownBy w' (some g)) :
    St w' B R T S A X n g0 g1 c0 c1 kc v2 v3 vm st v k xs := h.gb hg (fun g' e => by cases e; exact h.far hb ht h0)
theorem St.apart (h : St w B R T S A X n g0 g1 c0 c1 kc v2 v3 vm st v k xs) {g : Nat} (hg : g = g0 ∨ g = g1) : R ≠ g ∧ T ≠ g ∧ S ≠ g ∧ A ≠ g ∧ X ≠ g ∧ 0 ≠ g ∧ v.ownBlock ≠ some g := by
  obtain ⟨ts, cs, q1, q2, q3, q4, q5, q6⟩ := h.sy.out
  have hs : ∃ c, SlAt w B g c c := hg.elim (fun e => by subst e; exact ⟨_, h.s0⟩) (fun e => by subst e; exact ⟨_, h.s1⟩)
  obtain ⟨c, hs⟩ := hs
  obtain ⟨cur, hB, hc, _⟩ := id hs
  refine ⟨Ne.symm (hs.ne h.blk (by decide)), Ne.symm (hs.ne q1 (by decide)), Ne.symm (hs.ne q5 (by decide)), Ne.symm (hs.ne h.var (by decide)), Ne.symm (hs.ne h.x (by decide)), by have := h.le; omega, fun e => ?_⟩
  obtain ⟨_, cur', hc'⟩ := h.row e
  exact blk_ne hc' hc (by decide) rfl
theorem St.set0 (h : St w B R T S A X n g0 g1 c0 c1 kc v2 v3 vm st v k xs) (j : Nat) (c : Int) : St (w.setCell ⟨g0, j * 3 + 1, none⟩ (.int .u32 c)) B R T S A X n g0 g1 c0 c1 kc v2 v3 vm st v k xs := by
  have ap := h.apart (.inl rfl)
  have hg : w.grownBy (w.setCell ⟨g0, j * 3 + 1, none⟩ (.int .u32 c)) (some g0) := gb_set (gb_refl _ _) _ _ _
  have nR : ∀ {x y : Nat}, x ≠ y → some x ≠ some y := fun h e => h (Option.some.inj e)
  exact ⟨h.blk.gb hg (nR ap.1), h.s0.set j c, h.s1.gb hg (nR (Ne.symm h.ne)), h.ne, h.sy.gb hg (nR ap.2.1) (nR ap.2.2.1), h.iv.gb hg (nR ap.2.2.2.2.2.1), h.var.gb hg (nR ap.2.2.2.1), World.ownsRow.kept h.own hg (.inr ap.2.2.2.2.2.2), h.x.gb hg (nR ap.2.2.2.2.1), h.le⟩
theorem St.set1 (h : St w B R T S A X n g0 g1 c0 c1 kc v2 v3 vm st v k xs) (j : Nat) (c : Int) : St (w.setCell ⟨g1, j * 3 + 1, none⟩ (.int .u32 c)) B R T S A X n g0 g1 c0 c1 kc v2 v3 vm st v k xs := by
  have ap := h.apart (.inr rfl)
  have hg : w.grownBy (w.setCell ⟨g1, j * 3 + 1, none⟩ (.int .u32 c)) (some g1) := gb_set (gb_refl _ _) _ _ _
  have nR : ∀ {x y : Nat}, x ≠ y → some x ≠ some y := fun h e => h (Option.some.inj e)
  exact ⟨h.blk.gb hg (nR ap.1), h.s0.gb hg (nR h.ne), h.s1.set j c, h.ne, h.sy.gb hg (nR ap.2.1) (nR ap.2.2.1), h.iv.gb hg (nR ap.2.2.2.2.2.1), h.var.gb hg (nR ap.2.2.2.1), World.ownsRow.kept h.own hg (.inr ap.2.2.2.2.2.2), h.x.gb hg (nR ap.2.2.2.2.1), h.le⟩
theorem St.app {w1 w6 : World} {g cap k' : Nat} {ys : List Value} (h : St w B R T S A X n g0 g1 c0 c1 kc v2 v3 vm st v k xs) (h01 : w.grownBy w1 none) (hg : w1.grownBy w6 v.ownBlock) (ho : w6.ownsRow B 51 4 (.slice (some ⟨g, 0, none⟩) k' cap) k' ys) :
    St (w6.setCell ⟨A, 0, none⟩ (.slice (some ⟨g, 0, none⟩) k' cap)) B R T S A X n g0 g1 c0 c1 kc v2 v3 vm st (.slice (some ⟨g, 0, none⟩) k' cap) k' ys := by
  have h1 := h.grow h01
  obtain ⟨ts, cs, q1, q2, q3, q4, q5, q6⟩ := h1.sy.out
  have hset : w6.grownBy (w6.setCell ⟨A, 0, none⟩ (.slice (some ⟨g, 0, none⟩) k' cap)) (some A) := gb_set (gb_refl _ _) _ _ _
  have nR : ∀ {x y : Nat}, x ≠ y → some x ≠ some y := fun h e => h (Option.some.inj e)
  have nv : ∀ {b : Nat} {t : TypeId} {cs : Array Value}, Blk w1 b t cs → t ≠ 51 → some b ≠ v.ownBlock := fun hb ht e => by
    obtain ⟨_, cur, hc⟩ := h1.row e.symm
    exact blk_ne hc hb (Ne.symm ht) rfl
  have nvs : ∀ {b c : Nat}, SlAt w1 B b c c → some b ≠ v.ownBlock := fun hb e => by
    obtain ⟨cur, _, hc, _⟩ := hb
    exact nv hc (by decide) e
  have n0 : some 0 ≠ v.ownBlock := fun e => by
    have := (h1.row e.symm).1
    have := h.le
    omega
  have hv6 := h1.var.gb hg (nv h1.var (by decide))
  have hgA : g ≠ A := by
    rcases ho.2 with ⟨e, _⟩ | ⟨g', cap', cur, hv, _, hh, _⟩
    · cases e
    · have e : g' = g := by simp at hv; omega
      subst e
      exact blk_ne hh hv6 (by decide)
  exact ⟨(h1.blk.gb hg (nv h1.blk (by decide))).gb hset (nR (blk_ne h1.blk h1.var (by decide))), (h1.s0.gb hg (nvs h1.s0)).gb hset (nR (h1.s0.ne h1.var (by decide))), (h1.s1.gb hg (nvs h1.s1)).gb hset (nR (h1.s1.ne h1.var (by decide))), h.ne,
    (h1.sy.gb hg (nv q1 (by decide)) (nv q5 (by decide))).gb hset (nR (blk_ne q1 h1.var (by decide))) (nR (blk_ne q5 h1.var (by decide))), (h1.iv.gb hg n0).gb hset (nR (by have := h.le; omega)), hv6.set 0 _, World.ownsRow.kept ho hset (.inr (by simpa [Value.ownBlock] using hgA)), (h1.x.gb hg (nv h1.x (by decide))).gb hset (nR (blk_ne h1.x h1.var (by decide))), h.le⟩
end
/-- what the table holds for good -/
def Kc (kc : Array Value) (n : Nat) (ks ns : List Int) : Prop := ∀ i, i < n → kc[i * 10]? = some (.pointer none) ∧ kc[i * 10 + 6]? = some (.int .u32 (if nth ns i = 0 then 0 else 4294967295 - (nth ns i - 1))) ∧ kc[i * 10 + 7]? = some (.int .u16 0) ∧ kc[i * 10 + 8]? = some (.int .u8 (kindOf (nth ks i)))
/-- is symbol t listed? -/
def lst (ks ns : List Int) (t : Nat) : Bool := !(nth ks t % 3 == 0) && (nth ns t == 0)
def LL (S g0 g1 A : Nat) (v : Value) (i : Nat) : Prop := i = S ∨ i = g0 ∨ i = g1 ∨ i = A ∨ v.ownBlock = some i
def AcP (w : World) (B R T S A X n g0 g1 c0 c1 : Nat) (kc : Array Value) (v2 v3 vm : Value) (st : Int) (v : Value) (k : Nat) (xs : List Value) (ls : Bool) (t : Nat) (c : Int) (e : Ending) (w' : World) : Prop :=
  e = .returned (.tuple #[]) ∧ Kp w w' (LL S g0 g1 A v) ∧ ∃ v', (v' = v ∨ v'.ownBlock = v.ownBlock ∨ ∃ g, v'.ownBlock = some g ∧ w.heap.size ≤ g) ∧ St w' B R T S A X n g0 g1 c0 c1 kc v2 v3 vm st v' (if ls = true then k + 1 else k) (if ls = true then xs ++ [.int .u32 st, .int .u32 0, .int .u32 (t : Int), .int .u32 c] else xs)
end Go.Proofs.YtnfjfjcdehohhaaDoor
