/-
  AllocateTopLevelSymbolSlots. No statement of the seat is proved here.
-/
import Derived.Test.YtggepefjodgcgaaDoorKy
import Derived.Deep.AppendLies
import Derived.Deep.RegionHeldLaw
import Derived.Deep.RegionLaw
import Derived.Deep.DrawnRows
namespace Go.Proofs.YtggepefjodgcgaaDoor
open Go.RowKit
set_option linter.unusedVariables false
set_option linter.unusedSimpArgs false

/-- a row of n slots without names -/
def SlAt (w : World) (B g n cap : Nat) : Prop := ∃ cur, B ≤ g ∧ Blk w g 80 cur ∧ n ≤ cap ∧ cap ≤ maxLen ∧ cur.size = cap * 3 ∧ ∀ j, j < n → cur[j * 3]? = some (.string e0) ∧ (∃ c : Int, cur[j * 3 + 1]? = some (.int .u32 c)) ∧ ∃ d : Int, cur[j * 3 + 2]? = some (.int .u32 d)
theorem SlAt.gb {w w' : World} {B g n cap : Nat} {r : Option Nat} (h : SlAt w B g n cap) (hg : w.grownBy w' r) (hne : some g ≠ r) : SlAt w' B g n cap := by
  obtain ⟨cur, h1, h2, h3⟩ := h
  exact ⟨cur, h1, h2.gb hg hne, h3⟩
theorem SlAt.drew {w : World} {B g n cap : Nat} (h : SlAt w B g n cap) : SlAt w.drew B g n cap := h
theorem zs_size (c : Nat) : (zs c).size = c * 3 := by simp [zs, madeCells]
theorem zs_at (c j : Nat) (h : j < c) : (zs c)[j * 3]? = some (.string e0) ∧ (zs c)[j * 3 + 1]? = some (.int .u32 0) ∧ (zs c)[j * 3 + 2]? = some (.int .u32 0) := by
  have h1 : (j * 3) % 3 = 0 := by omega
  have h2 : (j * 3 + 1) % 3 = 1 := by omega
  have h3 : (j * 3 + 2) % 3 = 2 := by omega
  refine ⟨?_, ?_, ?_⟩ <;> (rw [Array.getElem?_eq_getElem (by rw [zs_size]; omega)]; simp [zs, madeCells, zslot, h1, h2, h3])
theorem SlAt.made {w : World} {B g c : Nat} (h : Blk w g 80 (zs c)) (hB : B ≤ g) (hc : c ≤ 65536) : SlAt w B g c c :=
  ⟨_, hB, h, Nat.le_refl _, by unfold maxLen; omega, zs_size c, fun j hj => ⟨(zs_at c j hj).1, ⟨0, (zs_at c j hj).2.1⟩, ⟨0, (zs_at c j hj).2.2⟩⟩⟩
/-- a count is stored -/
theorem SlAt.set {w : World} {B g n cap : Nat} (h : SlAt w B g n cap) (j : Nat) (c : Int) : SlAt (w.setCell ⟨g, j * 3 + 1, none⟩ (.int .u32 c)) B g n cap := by
  obtain ⟨cur, h1, h2, h3, h4, h5, h6⟩ := h
  refine ⟨_, h1, h2.set _ _, h3, h4, by simp [h5], fun i hi => ?_⟩
  obtain ⟨q1, q2, q3⟩ := h6 i hi
  refine ⟨?_, ?_, ?_⟩
  · rw [Array.getElem?_setIfInBounds_ne (by omega)]; exact q1
  · by_cases e : i = j
    · subst e
      exact ⟨c, Array.getElem?_setIfInBounds_self_of_lt (by rw [h5]; omega)⟩
    · rw [Array.getElem?_setIfInBounds_ne (by omega)]; exact q2
  · rw [Array.getElem?_setIfInBounds_ne (by omega)]; exact q3
theorem SlAt.lt {w : World} {B g n cap : Nat} (h : SlAt w B g n cap) : g < w.heap.size := by
  obtain ⟨cur, h1, h2, _⟩ := h
  exact h2.lt
theorem blk_ne {w : World} {g g' : Nat} {t t' : TypeId} {cs cs' : Array Value} (h : Blk w g t cs) (h' : Blk w g' t' cs') (hne : t ≠ t') : g ≠ g' := by
  rintro rfl
  unfold Blk at h h'
  rw [h] at h'
  injection h' with h'
  injection h' with _ ht
  exact hne ht
theorem SlAt.ne {w : World} {B g n cap g' : Nat} {t' : TypeId} {cs' : Array Value} (h : SlAt w B g n cap) (h' : Blk w g' t' cs') (hne : t' ≠ 80) : g ≠ g' := by
  obtain ⟨cur, _, h2, _⟩ := h
  exact blk_ne h2 h' (Ne.symm hne)
theorem Mp.ne {w : World} {bm k g : Nat} {D : DataW Unit} {t : TypeId} {cs : Array Value} (h : Mp w bm k D) (h' : Blk w g t cs) : g ≠ bm := by
  rintro rfl
  obtain ⟨es, clock, hb, _⟩ := h
  unfold Blk at h'
  rw [h'] at hb
  cases hb
theorem SlAt.nm {w : World} {B g n cap bm k : Nat} {D : DataW Unit} (h : SlAt w B g n cap) (h' : Mp w bm k D) : g ≠ bm := by
  obtain ⟨cur, _, h2, _⟩ := h
  exact h'.ne h2
theorem SlAt.own {w : World} {B g n cap : Nat} (h : SlAt w B g n cap) : ∃ xs, w.ownsRow B 80 3 (.slice (some ⟨g, 0, none⟩) n cap) n xs ∧ xs.length = n * 3 ∧ ∀ j, j < n → xs[j * 3]? = some (.string e0) ∧ (∃ c : Int, xs[j * 3 + 1]? = some (.int .u32 c)) ∧ ∃ d : Int, xs[j * 3 + 2]? = some (.int .u32 d) := by
  obtain ⟨cur, h1, h2, h3, h4, h5, h6⟩ := h
  have hl : n * 3 ≤ cur.toList.length := by simp [h5]; omega
  refine ⟨cur.toList.take (n * 3), ⟨by rw [List.length_take]; omega, .inr ⟨g, cap, cur, rfl, h1, h2, h3, h4, h5, rfl⟩⟩, by rw [List.length_take]; omega, fun j hj => ?_⟩
  obtain ⟨q1, q2, q3⟩ := h6 j hj
  refine ⟨?_, ?_, ?_⟩
  · rw [List.getElem?_take_of_lt (by omega), Array.getElem?_toList]; exact q1
  · rw [List.getElem?_take_of_lt (by omega), Array.getElem?_toList]; exact q2
  · rw [List.getElem?_take_of_lt (by omega), Array.getElem?_toList]; exact q3
theorem SlAt.of_own {w : World} {B g n cap : Nat} {xs : List Value} (h : w.ownsRow B 80 3 (.slice (some ⟨g, 0, none⟩) n cap) n xs) (hx : ∀ j, j < n → xs[j * 3]? = some (.string e0) ∧ (∃ c : Int, xs[j * 3 + 1]? = some (.int .u32 c)) ∧ ∃ d : Int, xs[j * 3 + 2]? = some (.int .u32 d)) : SlAt w B g n cap := by
  rcases h.2 with ⟨e, _⟩ | ⟨g', cap', cur, hv, hB, hh, hn, hc, hs, ht⟩
  · cases e
  · simp only [Value.slice.injEq, Option.some.injEq, Addr.mk.injEq, and_true, true_and] at hv
    obtain ⟨rfl, rfl⟩ := hv
    refine ⟨cur, hB, hh, hn, hc, hs, fun j hj => ?_⟩
    have tk : ∀ q, q < n * 3 → cur[q]? = xs[q]? := fun q hq => by rw [← ht, List.getElem?_take_of_lt hq, Array.getElem?_toList]
    rw [tk _ (by omega), tk _ (by omega), tk _ (by omega)]
    exact hx j hj
theorem has_any (w : World) : Calls Tryd.prog 25 #[.int .u16 0, .int .u16 2] w fun e w' => e = .returned (.bool false) ∧ w' = w := by
  have hb : bits BinOp.and IntKind.u16 0 2 = 0 := by decide
  go_enter Tryd.func25, Tryd.ntmps25
  go_wp2
  go_ret
  exact ⟨rfl, rfl⟩

/-- the cells of the array of the references -/
def Acs (acs : Array Value) (ps : List Int) (m : Nat) : Prop := ∀ k, k < m → acs[k * 4]? = some (.int .u32 0) ∧ acs[k * 4 + 1]? = some (.int .u32 0) ∧ acs[k * 4 + 2]? = some (.int .u32 (nth ps k)) ∧ acs[k * 4 + 3]? = some (.int .u32 1)
/-- what the table holds for good -/
def Kc (kc : Array Value) (n : Nat) (ts : List ByteArray) (ks ns : List Int) : Prop := ∀ i, i < n → kc[i * 10 + 1]? = some (.string (tth ts i)) ∧ kc[i * 10 + 6]? = some (.int .u32 (if nth ns i = 0 then 0 else 4294967295 - (nth ns i - 1))) ∧ kc[i * 10 + 7]? = some (.int .u16 0) ∧ kc[i * 10 + 8]? = some (.int .u8 (kindOf (nth ks i)))
structure Ast (w : World) (B Ar R T S bm n : Nat) (acs kc : Array Value) (root rk : Nat → Nat) (ps ks : List Int) (v2 v3 : Value) (g0 p0 n0 g1 p1 n1 : Nat) (D : DataW Unit) (k : Nat) : Prop where
  blk : Blk w R 72 #[.map none, .slice (some ⟨g0, 0, none⟩) n0 p0, .slice (some ⟨g1, 0, none⟩) n1 p1, v2, v3, .map (some bm), .slice (some ⟨T, 0, none⟩) 1 1]
  s0 : SlAt w B g0 n0 p0
  s1 : SlAt w B g1 n1 p1
  ne : g0 ≠ g1
  mp : Mp w bm k D
  kn : Know D ps k n (fun t => if nth ks t % 3 = 2 then n1 else n0)
  sy : Sy w T S 1 n kc root rk
  ar : Blk w Ar 45 acs
  ap : B ≤ R ∧ B ≤ bm
theorem Ast.grow {w w' : World} {B Ar R T S bm n : Nat} {acs kc : Array Value} {root rk : Nat → Nat} {ps ks : List Int} {v2 v3 : Value} {g0 p0 n0 g1 p1 n1 : Nat} {D : DataW Unit} {k : Nat}
    (h : Ast w B Ar R T S bm n acs kc root rk ps ks v2 v3 g0 p0 n0 g1 p1 n1 D k) (hg : w.grownBy w' none) : Ast w' B Ar R T S bm n acs kc root rk ps ks v2 v3 g0 p0 n0 g1 p1 n1 D k :=
  ⟨h.blk.gb hg (by simp), h.s0.gb hg (by simp), h.s1.gb hg (by simp), h.ne, h.mp.kept hg (by simp), h.kn, h.sy.gb hg (by simp) (by simp), h.ar.gb hg (by simp), h.ap⟩
theorem Sy.cell {w : World} {T S tl n : Nat} {ks : Array Value} {root rk : Nat → Nat} (h : Sy w T S tl n ks root rk) {j : Nat} (h2 : j % 10 ≠ 2) (h3 : j % 10 ≠ 3) : w.cell? ⟨S, j, none⟩ = ks[j]? := by
  obtain ⟨ts, cs, q1, q2, q3, q4, q5, q6, q7, q8⟩ := h.out
  rw [q5.cell, q7 _ h2 h3]
theorem Ast.apart {w : World} {B Ar R T S bm n : Nat} {acs kc : Array Value} {root rk : Nat → Nat} {ps ks : List Int} {v2 v3 : Value} {g0 p0 n0 g1 p1 n1 : Nat} {D : DataW Unit} {k : Nat}
    (h : Ast w B Ar R T S bm n acs kc root rk ps ks v2 v3 g0 p0 n0 g1 p1 n1 D k) : (R ≠ g0 ∧ T ≠ g0 ∧ S ≠ g0 ∧ Ar ≠ g0 ∧ bm ≠ g0) ∧ (R ≠ g1 ∧ T ≠ g1 ∧ S ≠ g1 ∧ Ar ≠ g1 ∧ bm ≠ g1) ∧ (T ≠ R ∧ S ≠ R ∧ Ar ≠ R ∧ bm ≠ R) ∧ (T ≠ bm ∧ S ≠ bm ∧ Ar ≠ bm) := by
  obtain ⟨ts, cs, q1, q2, q3, q4, q5, q6, q7, q8⟩ := h.sy.out
  refine ⟨⟨Ne.symm (h.s0.ne h.blk (by decide)), Ne.symm (h.s0.ne q1 (by decide)), Ne.symm (h.s0.ne q5 (by decide)), Ne.symm (h.s0.ne h.ar (by decide)), Ne.symm (h.s0.nm h.mp)⟩, ⟨Ne.symm (h.s1.ne h.blk (by decide)), Ne.symm (h.s1.ne q1 (by decide)), Ne.symm (h.s1.ne q5 (by decide)), Ne.symm (h.s1.ne h.ar (by decide)), Ne.symm (h.s1.nm h.mp)⟩,
    ⟨blk_ne q1 h.blk (by decide), blk_ne q5 h.blk (by decide), blk_ne h.ar h.blk (by decide), Ne.symm (h.mp.ne h.blk)⟩, ⟨h.mp.ne q1, h.mp.ne q5, h.mp.ne h.ar⟩⟩
theorem Ast.far {w w' : World} {B Ar R T S bm n : Nat} {acs kc : Array Value} {root rk : Nat → Nat} {ps ks : List Int} {v2 v3 : Value} {g0 p0 n0 g1 p1 n1 : Nat} {D : DataW Unit} {k : Nat}
    (h : Ast w B Ar R T S bm n acs kc root rk ps ks v2 v3 g0 p0 n0 g1 p1 n1 D k) {g : Nat} (hg : w.grownBy w' (some g)) (h1 : R ≠ g ∧ T ≠ g ∧ S ≠ g ∧ Ar ≠ g ∧ bm ≠ g) (s0 : SlAt w' B g0 n0 p0) (s1 : SlAt w' B g1 n1 p1) :
    Ast w' B Ar R T S bm n acs kc root rk ps ks v2 v3 g0 p0 n0 g1 p1 n1 D k :=
  ⟨h.blk.gb hg (fun e => h1.1 (Option.some.inj e)), s0, s1, h.ne, h.mp.kept hg (fun e => h1.2.2.2.2 (Option.some.inj e)), h.kn, h.sy.gb hg (fun e => h1.2.1 (Option.some.inj e)) (fun e => h1.2.2.1 (Option.some.inj e)), h.ar.gb hg (fun e => h1.2.2.2.1 (Option.some.inj e)), h.ap⟩
theorem Ast.set0 {w : World} {B Ar R T S bm n : Nat} {acs kc : Array Value} {root rk : Nat → Nat} {ps ks : List Int} {v2 v3 : Value} {g0 p0 n0 g1 p1 n1 : Nat} {D : DataW Unit} {k : Nat}
    (h : Ast w B Ar R T S bm n acs kc root rk ps ks v2 v3 g0 p0 n0 g1 p1 n1 D k) (j : Nat) (c : Int) : Ast (w.setCell ⟨g0, j * 3 + 1, none⟩ (.int .u32 c)) B Ar R T S bm n acs kc root rk ps ks v2 v3 g0 p0 n0 g1 p1 n1 D k :=
  h.far (gb_set (gb_refl _ _) _ _ _) h.apart.1 (h.s0.set j c) (h.s1.gb (gb_set (gb_refl _ (some g0)) _ _ _) (fun e => h.ne (Option.some.inj e).symm))
theorem Ast.set1 {w : World} {B Ar R T S bm n : Nat} {acs kc : Array Value} {root rk : Nat → Nat} {ps ks : List Int} {v2 v3 : Value} {g0 p0 n0 g1 p1 n1 : Nat} {D : DataW Unit} {k : Nat}
    (h : Ast w B Ar R T S bm n acs kc root rk ps ks v2 v3 g0 p0 n0 g1 p1 n1 D k) (j : Nat) (c : Int) : Ast (w.setCell ⟨g1, j * 3 + 1, none⟩ (.int .u32 c)) B Ar R T S bm n acs kc root rk ps ks v2 v3 g0 p0 n0 g1 p1 n1 D k :=
  h.far (gb_set (gb_refl _ _) _ _ _) h.apart.2.1 (h.s0.gb (gb_set (gb_refl _ (some g1)) _ _ _) (fun e => h.ne (Option.some.inj e))) (h.s1.set j c)
theorem Ast.next {w : World} {B Ar R T S bm n : Nat} {acs kc : Array Value} {root rk : Nat → Nat} {ps ks : List Int} {v2 v3 : Value} {g0 p0 n0 g1 p1 n1 : Nat} {D : DataW Unit} {k t : Nat}
    (h : Ast w B Ar R T S bm n acs kc root rk ps ks v2 v3 g0 p0 n0 g1 p1 n1 D k) (ht : t < n) (hp : nth ps k = (t : Int)) (hh : Maps.has D (kr t) = true) : Ast w B Ar R T S bm n acs kc root rk ps ks v2 v3 g0 p0 n0 g1 p1 n1 D (k + 1) :=
  ⟨h.blk, h.s0, h.s1, h.ne, h.mp.mono (Nat.le_succ _), h.kn.again ht hp hh, h.sy, h.ar, h.ap⟩
theorem Know.le {D : DataW Unit} {ps : List Int} {k n : Nat} {top top' : Nat → Nat} (h : Know D ps k n top) (ht : ∀ s, top s ≤ top' s) : Know D ps k n top' :=
  ⟨h.map, h.has, fun t htn hh => by obtain ⟨i, h1, h2⟩ := h.at_ t htn hh; exact ⟨i, h1, Nat.lt_of_lt_of_le h2 (ht t)⟩⟩
def Els (xs : List Value) (n : Nat) : Prop := ∀ j, j < n → xs[j * 3]? = some (.string e0) ∧ (∃ c : Int, xs[j * 3 + 1]? = some (.int .u32 c)) ∧ ∃ d : Int, xs[j * 3 + 2]? = some (.int .u32 d)
theorem Els.snoc {xs : List Value} {n : Nat} (h : Els xs n) (hl : xs.length = n * 3) (c d : Int) : Els (xs ++ [.string e0, .int .u32 c, .int .u32 d]) (n + 1) := fun j hj => by
  by_cases e : j < n
  · obtain ⟨q1, q2, q3⟩ := h j e
    rw [List.getElem?_append_left (by omega), List.getElem?_append_left (by omega), List.getElem?_append_left (by omega)]
    exact ⟨q1, q2, q3⟩
  · have e2 : j = n := by omega
    subst e2
    rw [List.getElem?_append_right (by omega), List.getElem?_append_right (by omega), List.getElem?_append_right (by omega), hl]
    exact ⟨by simp, ⟨c, by simp⟩, ⟨d, by simp⟩⟩
theorem Ast.app0 {w w1 w6 : World} {B Ar R T S bm n : Nat} {acs kc : Array Value} {root rk : Nat → Nat} {ps ks : List Int} {v2 v3 : Value} {g0 p0 n0 g1 p1 n1 g cap : Nat} {D : DataW Unit} {k : Nat} {xs : List Value}
    (h : Ast w B Ar R T S bm n acs kc root rk ps ks v2 v3 g0 p0 n0 g1 p1 n1 D k) (h01 : w.grownBy w1 none) (hg : w1.grownBy w6 (some g0)) (ho : w6.ownsRow B 80 3 (.slice (some ⟨g, 0, none⟩) (n0 + 1) cap) (n0 + 1) xs) (hx : Els xs (n0 + 1)) (hat : g0 = g ∨ w.heap.size ≤ g) :
    Ast (w6.setCell ⟨R, 1, none⟩ (.slice (some ⟨g, 0, none⟩) (n0 + 1) cap)) B Ar R T S bm n acs kc root rk ps ks v2 v3 g cap (n0 + 1) g1 p1 n1 D k := by
  have ap := h.apart
  have hs6 : SlAt w6 B g (n0 + 1) cap := SlAt.of_own ho hx
  have hg' : w.grownBy w6 (some g0) := gb_trans (gb_none h01) hg
  have hset : w6.grownBy (w6.setCell ⟨R, 1, none⟩ (.slice (some ⟨g, 0, none⟩) (n0 + 1) cap)) (some R) := gb_set (gb_refl _ _) _ _ _
  have hb6 := h.blk.gb hg' (fun e => ap.1.1 (Option.some.inj e))
  have hgR : g ≠ R := hs6.ne hb6 (by decide)
  have nR : ∀ {x y : Nat}, x ≠ y → some x ≠ some y := fun h e => h (Option.some.inj e)
  refine ⟨hb6.set 1 _, hs6.gb hset (nR hgR), (h.s1.gb hg' (nR (Ne.symm h.ne))).gb hset (nR (Ne.symm ap.2.1.1)), ?_, (h.mp.kept hg' (nR ap.1.2.2.2.2)).kept hset (nR ap.2.2.1.2.2.2), h.kn.le (fun s => by split <;> omega), (h.sy.gb hg' (nR ap.1.2.1) (nR ap.1.2.2.1)).gb hset (nR ap.2.2.1.1) (nR ap.2.2.1.2.1), (h.ar.gb hg' (nR ap.1.2.2.2.1)).gb hset (nR ap.2.2.1.2.2.1), h.ap⟩
  rcases hat with e | e
  · rw [← e]; exact h.ne
  · have := h.s1.lt; omega
theorem Ast.app1 {w w1 w6 : World} {B Ar R T S bm n : Nat} {acs kc : Array Value} {root rk : Nat → Nat} {ps ks : List Int} {v2 v3 : Value} {g0 p0 n0 g1 p1 n1 g cap : Nat} {D : DataW Unit} {k : Nat} {xs : List Value}
    (h : Ast w B Ar R T S bm n acs kc root rk ps ks v2 v3 g0 p0 n0 g1 p1 n1 D k) (h01 : w.grownBy w1 none) (hg : w1.grownBy w6 (some g1)) (ho : w6.ownsRow B 80 3 (.slice (some ⟨g, 0, none⟩) (n1 + 1) cap) (n1 + 1) xs) (hx : Els xs (n1 + 1)) (hat : g1 = g ∨ w.heap.size ≤ g) :
    Ast (w6.setCell ⟨R, 2, none⟩ (.slice (some ⟨g, 0, none⟩) (n1 + 1) cap)) B Ar R T S bm n acs kc root rk ps ks v2 v3 g0 p0 n0 g cap (n1 + 1) D k := by
  have ap := h.apart
  have hs6 : SlAt w6 B g (n1 + 1) cap := SlAt.of_own ho hx
  have hg' : w.grownBy w6 (some g1) := gb_trans (gb_none h01) hg
  have hset : w6.grownBy (w6.setCell ⟨R, 2, none⟩ (.slice (some ⟨g, 0, none⟩) (n1 + 1) cap)) (some R) := gb_set (gb_refl _ _) _ _ _
  have hb6 := h.blk.gb hg' (fun e => ap.2.1.1 (Option.some.inj e))
  have hgR : g ≠ R := hs6.ne hb6 (by decide)
  have nR : ∀ {x y : Nat}, x ≠ y → some x ≠ some y := fun h e => h (Option.some.inj e)
  refine ⟨hb6.set 2 _, (h.s0.gb hg' (nR h.ne)).gb hset (nR (Ne.symm ap.1.1)), hs6.gb hset (nR hgR), ?_, (h.mp.kept hg' (nR ap.2.1.2.2.2.2)).kept hset (nR ap.2.2.1.2.2.2), h.kn.le (fun s => by split <;> omega), (h.sy.gb hg' (nR ap.2.1.2.1) (nR ap.2.1.2.2.1)).gb hset (nR ap.2.2.1.1) (nR ap.2.2.1.2.1), (h.ar.gb hg' (nR ap.2.1.2.2.2.1)).gb hset (nR ap.2.2.1.2.2.1), h.ap⟩
  rcases hat with e | e
  · rw [← e]; exact h.ne
  · have := h.s0.lt; omega
theorem Ast.putm {w w' : World} {B Ar R T S bm n : Nat} {acs kc : Array Value} {root rk : Nat → Nat} {ps ks : List Int} {v2 v3 : Value} {g0 p0 n0 g1 p1 n1 : Nat} {D : DataW Unit} {k t i : Nat}
    (h : Ast w B Ar R T S bm n acs kc root rk ps ks v2 v3 g0 p0 n0 g1 p1 n1 D k) (hn : n ≤ 65536) (hg : w.grownBy w' (some bm)) (hm : Mp w' bm (k + 1) (D.put (kr t) (.lit (.int .u32 (i : Int))))) (ht : t < n) (hp : nth ps k = (t : Int)) (hi : i < (if nth ks t % 3 = 2 then n1 else n0)) :
    Ast w' B Ar R T S bm n acs kc root rk ps ks v2 v3 g0 p0 n0 g1 p1 n1 (D.put (kr t) (.lit (.int .u32 (i : Int)))) (k + 1) := by
  have ap := h.apart
  have nR : ∀ {x y : Nat}, x ≠ y → some x ≠ some y := fun h e => h (Option.some.inj e)
  exact ⟨h.blk.gb hg (nR (Ne.symm ap.2.2.1.2.2.2)), h.s0.gb hg (nR (Ne.symm ap.1.2.2.2.2)), h.s1.gb hg (nR (Ne.symm ap.2.1.2.2.2.2)), h.ne, hm, h.kn.put hn ht hp hi (fun _ => Nat.le_refl _), h.sy.gb hg (nR ap.2.2.2.1) (nR ap.2.2.2.2.1), h.ar.gb hg (nR ap.2.2.2.2.2), h.ap⟩
theorem gb_drewN (w : World) (d : Nat) : w.grownBy (w.drewN d) none := ⟨rfl, rfl, rfl, Nat.le_refl _, fun _ _ _ => rfl⟩
theorem look_all {w : World} {bm n : Nat} {D : DataW Unit} {t : Nat} (hown : Mp w bm n D) (ht : t < 4294967296) : ∃ cc, D.atKey (kr t) (.lit (.int .u32 0)) = .lit (.int .u32 cc) ∧
    ∀ d, (Instr.lookup 70 (.map (some bm)) (.agg #[.int .u32 0, .int .u32 (t : Int)]) true).run Tryd.prog (w.drewN d) = .ok (.tuple #[.int .u32 cc, .bool (Maps.has D (kr t))]) (w.drewN d) := by
  obtain ⟨cc, h1, _⟩ := look_at hown ht
  refine ⟨cc, h1, fun d => ?_⟩
  obtain ⟨c2, h3, h4⟩ := look_at (hown.kept (gb_drewN w d) (by simp)) ht
  rw [h1] at h3
  have : c2 = cc := by simpa using h3.symm
  rw [this] at h4
  exact h4
set_option maxHeartbeats 4000000 in
set_option maxRecDepth 100000 in
theorem alloc_any (B Ar R T S bm n m mc : Nat) (acs kc : Array Value) (root rk : Nat → Nat) (ts : List ByteArray) (ps ks ns : List Int) (v2 v3 : Value) (g0 p0 n0 g1 p1 n1 : Nat) (w : World) (hB : B ≤ w.heap.size) (hn : n ≤ 65536) (hm : m ≤ 65536) (hkl : ks.length = n)
    (hkc : Kc kc n ts ks ns) (hac : Acs acs ps m) (htp : TopsOk ks ps m) (hp32 : ∀ i, i < m → 0 ≤ nth ps i) (hle : n0 ≤ 65536 ∧ n1 ≤ 65536) (h : Ast w B Ar R T S bm n acs kc root rk ps ks v2 v3 g0 p0 n0 g1 p1 n1 (.map []) 0) :
    Calls Tryd.prog 13 #[.pointer (some ⟨R, 0, none⟩), .slice (some ⟨Ar, 0, none⟩) m mc] w fun e w' => e = .returned (.tuple #[]) ∧ Below B w w' ∧
      ∃ g0 p0 n0' g1 p1 n1' D, Ast w' B Ar R T S bm n acs kc root rk ps ks v2 v3 g0 p0 n0' g1 p1 n1' D m ∧ n0 ≤ n0' ∧ n1 ≤ n1' ∧ n0' ≤ 65536 + m ∧ n1' ≤ 65536 + m := by
  have H := Lib.hid (And.intro hkc (And.intro hac (And.intro htp (And.intro hp32 h))))
  clear hkc hac htp hp32 h
  go_enter Tryd.func13, Tryd.ntmps13
  go_wp2_with fail
  go_loopg [14] m (fun gk a wx => ∃ k : Nat, a = .int .i64 (k : Int) ∧ k ≤ m ∧ m - k ≤ gk ∧ Hid (Below B w wx ∧ ∃ g0 p0 n0' g1 p1 n1' D, Ast wx B Ar R T S bm n acs kc root rk ps ks v2 v3 g0 p0 n0' g1 p1 n1' D k ∧ n0 ≤ n0' ∧ n1 ≤ n1' ∧ n0' ≤ 65536 + k ∧ n1' ≤ 65536 + k))
  case atStart => exact ⟨0, rfl, by omega, by omega, Lib.hid ⟨Below.refl _ _, _, _, _, _, _, _, _, H.out.2.2.2.2, Nat.le_refl _, Nat.le_refl _, by omega, by omega⟩⟩
  case round =>
    obtain ⟨k, rfl, hk, hgk, HB⟩ := hrel
    obtain ⟨wz, rfl⟩ : ∃ wz : World, wz = wr := ⟨_, rfl⟩
    rcases (show m = k ∨ k < m by omega) with he | hlt
    · obtain rfl := he
      go_wp2_with fail
      go_end0
      obtain ⟨q1, x1, x2, x3, x4, x5, x6, x7, x8, x9, x10, x11⟩ := HB.out
      exact ⟨rfl, q1, x1, x2, x3, x4, x5, x6, x7, x8, x9, x10, x11⟩
    · obtain ⟨hbel, h0, q0, m0, h1, q1, m1, D, hA, hle0, hle1, hld0, hld1⟩ := HB.out
      have hz1 := H.out.2.2.1 k hlt
      have hz2 := H.out.2.2.2.1 k hlt
      have hac := H.out.2.1 k hlt
      obtain ⟨t, ht⟩ : ∃ t : Nat, nth ps k = (t : Int) := ⟨(nth ps k).toNat, by omega⟩
      rw [ht] at hz1 hac
      rw [Int.toNat_natCast] at hz1
      have htn : t < n := by have := hz1.1; omega
      obtain ⟨kk, hkk⟩ : ∃ kk, nth ks t = kk := ⟨_, rfl⟩
      have hkc := H.out.1 t htn
      rw [hkk] at hkc hz1
      have a0 := (hA.ar.cell (k * 4)).trans hac.1
      have a1 := (hA.ar.cell (k * 4 + 1)).trans hac.2.1
      have a2 := (hA.ar.cell (k * 4 + 2)).trans hac.2.2.1
      have a3 := (hA.ar.cell (k * 4 + 3)).trans hac.2.2.2
      have HT := Lib.hid (And.intro ht (And.intro hkk (And.intro hz1 (And.intro hkc (And.intro hbel (And.intro hA (And.intro hle0 (And.intro hle1 (And.intro hld0 hld1)))))))))
      clear hz1 hz2 hac ht hkk hkc hbel hA hle0 hle1 hld0 hld1 HB
      go_upto_region 3 with fail
      obtain ⟨Bx, hBx⟩ : ∃ Bx, wz.heap.size = Bx := ⟨_, rfl⟩
      have hb1 := Blk.new wz 45 #[.int .u32 0, .int .u32 0, .int .u32 (t : Int), .int .u32 1]
      have hg1 : wz.grownBy (wz.alloc (.cells #[.int .u32 0, .int .u32 0, .int .u32 (t : Int), .int .u32 1] 45)) none := gb_alloc (gb_refl _ _) _
      rw [hBx] at hb1
      obtain ⟨w1, hw1⟩ : ∃ w1, wz.alloc (.cells #[.int .u32 0, .int .u32 0, .int .u32 (t : Int), .int .u32 1] 45) = w1 := ⟨_, rfl⟩
      rw [hw1] at hb1 hg1 ⊢
      have HA1 := Lib.hid (And.intro (HT.out.2.2.2.2.2.1.grow hg1) (And.intro hb1 (And.intro (HT.out.2.2.2.2.1.grown hg1 (Nat.le_trans hB HT.out.2.2.2.2.1.size) (fun k hk => by cases hk)) (show B ≤ Bx by have := HT.out.2.2.2.2.1.size; omega))))
      clear hw1 hb1 hg1 a0 a1 a2 a3
      rw [hBx]
      have HBx := Lib.hid hBx
      clear hBx
      have r6 : w1.drew.cell? ⟨R, 6, none⟩ = some (.slice (some ⟨T, 0, none⟩) 1 1) := HA1.out.1.blk.cell 6
      have x1 : w1.drew.cell? ⟨Bx, 1, none⟩ = some (.int .u32 0) := HA1.out.2.1.cell 1
      have x2 : w1.drew.cell? ⟨Bx, 2, none⟩ = some (.int .u32 (t : Int)) := HA1.out.2.1.cell 2
      have HG := Lib.hid (get_any T S 1 1 n kc root rk t w1.drew HA1.out.1.sy.drew htn)
      go_region_held3 (fun w' => w'.cell? ⟨R, 6, none⟩ = some (.slice (some ⟨T, 0, none⟩) 1 1) ∧ w'.cell? ⟨Bx, 1, none⟩ = some (.int .u32 0) ∧ w'.cell? ⟨Bx, 2, none⟩ = some (.int .u32 (t : Int))) (first | go_keep | exact ⟨HA2.out.1.blk.cell 6, HA2.out.2.1.cell 1, HA2.out.2.1.cell 2⟩)
        (first | (go_at_call 23; refine HG.out.mono ?_; rintro e w2 ⟨rfl, hg2⟩; have HA2 := Lib.hid (And.intro (HA1.out.1.grow (gb_und hg2)) (And.intro (HA1.out.2.1.gb (gb_und hg2) (by simp)) (HA1.out.2.2.1.grown (gb_und hg2) (Nat.le_trans hB HA1.out.2.2.1.size) (fun k hk => by cases hk)))); clear hg2))
      go_upto_region 4 with fail
      clear r6 x1 x2 HG
      have c8 := (HA2.out.1.sy.cell (j := t * 10 + 8) (by omega) (by omega)).trans HT.out.2.2.2.1.2.2.2
      have c7 := (HA2.out.1.sy.cell (j := t * 10 + 7) (by omega) (by omega)).trans HT.out.2.2.2.1.2.2.1
      have HN := Lib.hid (fun d => sns_any S (t * 10) kk (w2.drewN d) c8 c7)
      have HFL := Lib.hid c7
      have hns : (slotNs kk = 0 ∧ ¬ kk % 3 = 2) ∨ (slotNs kk = 1 ∧ kk % 3 = 2) := by
        have := HT.out.2.2.1.2
        unfold slotNs nsOf
        by_cases e : kk % 3 = 2
        · right; rw [if_neg this, if_pos e]; exact ⟨rfl, e⟩
        · left; rw [if_neg this, if_neg e]; exact ⟨rfl, e⟩
      clear c8 c7
      rcases hns with ⟨hns, hkind⟩ | ⟨hns, hkind⟩
      · rw [hns] at HN
        have HK := Lib.hid hkind
        clear hns hkind
        go_quiet ((go_at_call 24; exact Calls.quiet_of_same (HN.out _)))
        go_upto_region 5 with fail
        obtain ⟨w3, hw3⟩ : ∃ w3, w2.drewN nq = w3 := ⟨_, rfl⟩
        have hg3 : w2.grownBy w3 none := by rw [← hw3]; exact gb_drewN _ _
        have HA3 := Lib.hid (And.intro (HA2.out.1.grow hg3) (And.intro (HA2.out.2.1.gb hg3 (by simp)) (HA2.out.2.2.grown hg3 (Nat.le_trans hB HA2.out.2.2.size) (fun k hk => by cases hk))))
        rw [hw3]
        clear hw3 hg3 HN
        obtain ⟨cc, hat, hlk⟩ := look_all HA3.out.1.mp (show t < 4294967296 by omega)
        have r5 : w3.cell? ⟨R, 5, none⟩ = some (.map (some bm)) := HA3.out.1.blk.cell 5
        have x1 : w3.cell? ⟨Bx, 1, none⟩ = some (.int .u32 0) := HA3.out.2.1.cell 1
        have x2 : w3.cell? ⟨Bx, 2, none⟩ = some (.int .u32 (t : Int)) := HA3.out.2.1.cell 2
        have HAT := Lib.hid hat
        clear hat
        obtain ⟨bb, hbb⟩ : ∃ bb, Maps.has D (kr t) = bb := ⟨_, rfl⟩
        rw [hbb] at hlk
        have HBB := Lib.hid hbb
        clear hbb
        go_quiet (fail)
        obtain ⟨w4, hw4⟩ : ∃ w4, w3.drewN nq = w4 := ⟨_, rfl⟩
        have hg4 : w3.grownBy w4 none := by rw [← hw4]; exact gb_drewN _ _
        have HA4 := Lib.hid (And.intro (HA3.out.1.grow hg4) (And.intro (HA3.out.2.1.gb hg4 (by simp)) (HA3.out.2.2.grown hg4 (Nat.le_trans hB HA3.out.2.2.size) (fun k hk => by cases hk))))
        rw [hw4]
        clear hw4 hg4 hlk r5 x1 x2
        cases bb
        rotate_left
        · obtain ⟨i, hi, hit⟩ := HA4.out.1.kn.at_ t htn HBB.out
          rw [HAT.out] at hi
          obtain rfl : cc = (i : Int) := by simpa using hi
          have HH := Lib.hid (And.intro HBB.out hit)
          clear hi hit
          have hi0 : i < m0 := by
            have := HH.out.2
            simp only [HT.out.2.1, if_neg HK.out] at this
            exact this
          have r1 : w4.cell? ⟨R, 1, none⟩ = some (.slice (some ⟨h0, 0, none⟩) m0 q0) := HA4.out.1.blk.cell 1
          obtain ⟨c, y1, y2⟩ : ∃ c : Int, w4.drew.cell? ⟨h0, i * 3 + 1, none⟩ = some (.int .u32 c) ∧ w4.drew.frozen? ⟨h0, i * 3 + 1, none⟩ = false := by
            obtain ⟨cur, z1, z2, z3, z4, z5, z6⟩ := HA4.out.1.s0
            obtain ⟨_, ⟨c, hc⟩, _⟩ := z6 i hi0
            exact ⟨c, (z2.cell _).trans hc, z2.drew.free _⟩
          have x3 : w4.drew.cell? ⟨Bx, 3, none⟩ = some (.int .u32 1) := HA4.out.2.1.cell 3
          go_upto_region 8 with fail
          go_region
          obtain ⟨w5, hw5⟩ : ∃ w5, (w4.setCell ⟨h0, i * 3 + 1, none⟩ (.int .u32 ((c + 1) % 4294967296))).drew = w5 := ⟨_, rfl⟩
          have HA5 := Lib.hid (And.intro ((HA4.out.1.set0 i ((c + 1) % 4294967296)).grow (gb_drew (gb_refl _ _))) ((HA4.out.2.2.setCell (p := ⟨h0, i * 3 + 1, none⟩) (show B ≤ h0 by obtain ⟨_, hq, _⟩ := HA4.out.1.s0; exact hq) (.int .u32 ((c + 1) % 4294967296))).drew))
          rw [hw5] at HA5 ⊢
          clear hw5 y1 y2 x3 r1
          have c7 := (HA5.out.1.sy.cell (j := t * 10 + 7) (by omega) (by omega)).trans HT.out.2.2.2.1.2.2.1
          go_wp2_with (go_at_call 25; refine (has_any _).mono ?_; rintro e w' ⟨rfl, rfl⟩)
          go_roundg (gk - 1)
          case measure => omega
          case rel => exact ⟨k + 1, by go_num, by omega, by omega, Lib.hid ⟨HA5.out.2, _, _, _, _, _, _, D, HA5.out.1.next htn HT.out.1 HH.out.1, HT.out.2.2.2.2.2.2.1, HT.out.2.2.2.2.2.2.2.1, by have := HT.out.2.2.2.2.2.2.2.2.1; omega, by have := HT.out.2.2.2.2.2.2.2.2.2; omega⟩⟩
        · have HH := HBB
          have c7 := (HA4.out.1.sy.cell (j := t * 10 + 7) (by omega) (by omega)).trans HT.out.2.2.2.1.2.2.1
          have r1 : w4.cell? ⟨R, 1, none⟩ = some (.slice (some ⟨h0, 0, none⟩) m0 q0) := HA4.out.1.blk.cell 1
          have hm0 : m0 ≤ 131072 := by have := HT.out.2.2.2.2.2.2.2.2.1; omega
          go_upto_region 15 with (go_at_call 25; refine (has_any _).mono ?_; rintro e w5 ⟨rfl, rfl⟩)
          clear r1 c7
          obtain ⟨i0, hi0, hz0, hz1, hz2⟩ := info_parts info80
          obtain ⟨xs, hx1, hx2, hx3⟩ := HA4.out.1.s0.own
          have HOW := Lib.hid ((World.ownsRow.alloc hx1 (.cells #[.string ⟨#[]⟩, .int .u32 1, .int .u32 0] 80)) : (w5.alloc (.cells #[.string ⟨#[]⟩, .int .u32 1, .int .u32 0] 80)).drew.ownsRow B 80 3 (.slice (some ⟨h0, 0, none⟩) m0 q0) m0 xs)
          have HXX := Lib.hid (And.intro hx2 hx3)
          clear hx1 hx2 hx3
          have hBz : B ≤ w5.heap.size := Nat.le_trans hB HA4.out.2.2.size
          have HNW := Lib.hid (World.news_of_block (w := (w5.alloc (.cells #[.string ⟨#[]⟩, .int .u32 1, .int .u32 0] 80)).drew) (B := w5.heap.size) (heap_alloc_new w5 (.cells #[.string ⟨#[]⟩, .int .u32 1, .int .u32 0] 80)))
          have HS2 := Lib.hid (And.intro (HA4.out.1.blk.alloc (.cells #[.string ⟨#[]⟩, .int .u32 1, .int .u32 0] 80)).drew (HA4.out.2.1.alloc (.cells #[.string ⟨#[]⟩, .int .u32 1, .int .u32 0] 80)).drew)
          have HAP := Lib.hid HA4.out.1.apart
          have HLB := Lib.hid (And.intro HA4.out.1.blk.lt HA4.out.2.1.lt)
          have hBh : Bx ≠ h0 := Ne.symm (HA4.out.1.s0.ne HA4.out.2.1 (by decide))
          have HBH := Lib.hid hBh
          clear hBh
          have r1 : w5.drew.cell? ⟨R, 1, none⟩ = some (.slice (some ⟨h0, 0, none⟩) m0 q0) := HA4.out.1.blk.cell 1
          have x3 : w5.drew.cell? ⟨Bx, 3, none⟩ = some (.int .u32 1) := HA4.out.2.1.cell 3
          have r2 : (w5.alloc (.cells #[.string ⟨#[]⟩, .int .u32 1, .int .u32 0] 80)).drew.cell? ⟨R, 1, none⟩ = some (.slice (some ⟨h0, 0, none⟩) m0 q0) := HS2.out.1.cell 1
          go_region_law (refine step_append_lies _ (by rfl) (.tmp 77) (.tmp 82) 68 (by rfl) B 80 i0 _ 3 24 Tryd.underlying68 hi0 hz0 hz1 hz2 rfl (by omega) (.slice (some ⟨h0, 0, none⟩) m0 q0) m0 xs (by rfl) HOW.out ⟨w5.heap.size, 0, none⟩ 1 1 [.string ⟨#[]⟩, .int .u32 1, .int .u32 0] (by rfl) rfl HNW.out (by simp [Value.oneCell']) (by omega) (by unfold maxLen; omega) (by omega) (by simp; omega) (w5.heap.size + 1) (by simp) ?_; intro g cap w6 ho6 hg6 hat6 hlt6; have hR6 := HS2.out.1.gb hg6 (fun e => HAP.out.1.1 (Option.some.inj e)); have HX6 := HS2.out.2.gb hg6 (fun e => HBH.out (Option.some.inj e)); have r6 := hR6.cell 1; have HX7 : Hid ((w6.setCell ⟨R, 1, none⟩ (.slice (some ⟨g, 0, none⟩) (m0 + 1) cap)).cell? ⟨Bx, 3, none⟩ = some (.int .u32 1)) := Lib.hid ((show Blk (w6.setCell ⟨R, 1, none⟩ (.slice (some ⟨g, 0, none⟩) (m0 + 1) cap)) Bx 45 #[.int .u32 0, .int .u32 0, .int .u32 (t : Int), .int .u32 1] from blk_set_ne HX6 (Ne.symm (blk_ne hR6 HX6 (by decide))) 1 none _).cell 3); have H6 := Lib.hid (And.intro (HX6.cell 3) (And.intro ho6 (And.intro hg6 (And.intro hat6 hlt6)))); have f6 := hR6.free 1; clear hR6 HX6; clear ho6 hg6 hat6 hlt6)
          all_goals
            have hA7 := HA4.out.1.app0 (g := g) (cap := cap) (w1 := (w5.alloc (.cells #[.string ⟨#[]⟩, .int .u32 1, .int .u32 0] 80)).drew) (gb_drew (gb_alloc (gb_refl _ _) _)) H6.out.2.2.1 H6.out.2.1 (Els.snoc HXX.out.2 HXX.out.1 1 0) (by
              rcases H6.out.2.2.2.1 with e | e
              · exact .inl (by simpa [Value.ownBlock] using e)
              · exact .inr (by omega))
            have hb7 : Below B w (w6.setCell ⟨R, 1, none⟩ (.slice (some ⟨g, 0, none⟩) (m0 + 1) cap)) := (((HA4.out.2.2.alloc hBz _).drew).grown H6.out.2.2.1 (by simp; omega) (fun q hq => by
              have e : h0 = q := by simpa [Value.ownBlock] using hq
              obtain ⟨_, hq, _⟩ := HA4.out.1.s0
              omega)).setCell (p := ⟨R, 1, none⟩) HA4.out.1.ap.1 _
            have hx7 : Blk (w6.setCell ⟨R, 1, none⟩ (.slice (some ⟨g, 0, none⟩) (m0 + 1) cap)) Bx 45 #[.int .u32 0, .int .u32 0, .int .u32 (t : Int), .int .u32 1] := blk_set_ne (HS2.out.2.gb H6.out.2.2.1 (fun e => HBH.out (by simpa [Value.ownBlock] using e))) (Ne.symm (blk_ne HA4.out.1.blk HA4.out.2.1 (by decide))) 1 none _
            obtain ⟨w7, hw7⟩ : ∃ w7, w6.setCell ⟨R, 1, none⟩ (.slice (some ⟨g, 0, none⟩) (m0 + 1) cap) = w7 := ⟨_, rfl⟩
            rw [hw7] at hA7 hb7 hx7 ⊢
            have r5 : w7.drew.cell? ⟨R, 5, none⟩ = some (.map (some bm)) := hA7.blk.cell 5
            have x1 : w7.drew.cell? ⟨Bx, 1, none⟩ = some (.int .u32 0) := hx7.cell 1
            have x2 : w7.drew.cell? ⟨Bx, 2, none⟩ = some (.int .u32 (t : Int)) := hx7.cell 2
            obtain ⟨w8, hup, hmp, hg8⟩ := put_at (i := m0) (hA7.mp.kept (w' := w7.drew) (gb_drew (gb_refl _ none)) (by simp)) (by unfold maxLen; omega) (show t < 4294967296 by omega) (by omega)
            have HA8 := Lib.hid (And.intro (hA7.putm hn (gb_und hg8) hmp htn HT.out.1 (by rw [HT.out.2.1, if_neg HK.out]; omega)) (hb7.grown (gb_und hg8) (Nat.le_trans hB hb7.size) (fun q hq => by cases hq; exact HA4.out.1.ap.2)))
            clear hA7 hb7 hx7 hw7 hmp hg8
          all_goals
            go_upto_region 16 with fail
            go_region
            all_goals go_wp2_with fail
            all_goals
              go_roundg (gk - 1)
              case measure => omega
              case rel => exact ⟨k + 1, by go_num, by omega, by omega, Lib.hid ⟨HA8.out.2, _, _, _, _, _, _, _, HA8.out.1, by have := HT.out.2.2.2.2.2.2.1; omega, HT.out.2.2.2.2.2.2.2.1, by have := HT.out.2.2.2.2.2.2.2.2.1; omega, by have := HT.out.2.2.2.2.2.2.2.2.2; omega⟩⟩
      · rw [hns] at HN
        have HK := Lib.hid hkind
        clear hns hkind
        go_quiet ((go_at_call 24; exact Calls.quiet_of_same (HN.out _)))
        go_upto_region 5 with fail
        obtain ⟨w3, hw3⟩ : ∃ w3, w2.drewN nq = w3 := ⟨_, rfl⟩
        have hg3 : w2.grownBy w3 none := by rw [← hw3]; exact gb_drewN _ _
        have HA3 := Lib.hid (And.intro (HA2.out.1.grow hg3) (And.intro (HA2.out.2.1.gb hg3 (by simp)) (HA2.out.2.2.grown hg3 (Nat.le_trans hB HA2.out.2.2.size) (fun k hk => by cases hk))))
        rw [hw3]
        clear hw3 hg3 HN
        obtain ⟨cc, hat, hlk⟩ := look_all HA3.out.1.mp (show t < 4294967296 by omega)
        have r5 : w3.cell? ⟨R, 5, none⟩ = some (.map (some bm)) := HA3.out.1.blk.cell 5
        have x1 : w3.cell? ⟨Bx, 1, none⟩ = some (.int .u32 0) := HA3.out.2.1.cell 1
        have x2 : w3.cell? ⟨Bx, 2, none⟩ = some (.int .u32 (t : Int)) := HA3.out.2.1.cell 2
        have HAT := Lib.hid hat
        clear hat
        obtain ⟨bb, hbb⟩ : ∃ bb, Maps.has D (kr t) = bb := ⟨_, rfl⟩
        rw [hbb] at hlk
        have HBB := Lib.hid hbb
        clear hbb
        go_quiet (fail)
        obtain ⟨w4, hw4⟩ : ∃ w4, w3.drewN nq = w4 := ⟨_, rfl⟩
        have hg4 : w3.grownBy w4 none := by rw [← hw4]; exact gb_drewN _ _
        have HA4 := Lib.hid (And.intro (HA3.out.1.grow hg4) (And.intro (HA3.out.2.1.gb hg4 (by simp)) (HA3.out.2.2.grown hg4 (Nat.le_trans hB HA3.out.2.2.size) (fun k hk => by cases hk))))
        rw [hw4]
        clear hw4 hg4 hlk r5 x1 x2
        cases bb
        rotate_left
        · obtain ⟨i, hi, hit⟩ := HA4.out.1.kn.at_ t htn HBB.out
          rw [HAT.out] at hi
          obtain rfl : cc = (i : Int) := by simpa using hi
          have HH := Lib.hid (And.intro HBB.out hit)
          clear hi hit
          have hi0 : i < m1 := by
            have := HH.out.2
            simp only [HT.out.2.1, if_pos HK.out] at this
            exact this
          have r1 : w4.cell? ⟨R, 2, none⟩ = some (.slice (some ⟨h1, 0, none⟩) m1 q1) := HA4.out.1.blk.cell 2
          obtain ⟨c, y1, y2⟩ : ∃ c : Int, w4.drew.cell? ⟨h1, i * 3 + 1, none⟩ = some (.int .u32 c) ∧ w4.drew.frozen? ⟨h1, i * 3 + 1, none⟩ = false := by
            obtain ⟨cur, z1, z2, z3, z4, z5, z6⟩ := HA4.out.1.s1
            obtain ⟨_, ⟨c, hc⟩, _⟩ := z6 i hi0
            exact ⟨c, (z2.cell _).trans hc, z2.drew.free _⟩
          have x3 : w4.drew.cell? ⟨Bx, 3, none⟩ = some (.int .u32 1) := HA4.out.2.1.cell 3
          go_upto_region 8 with fail
          go_region
          obtain ⟨w5, hw5⟩ : ∃ w5, (w4.setCell ⟨h1, i * 3 + 1, none⟩ (.int .u32 ((c + 1) % 4294967296))).drew = w5 := ⟨_, rfl⟩
          have HA5 := Lib.hid (And.intro ((HA4.out.1.set1 i ((c + 1) % 4294967296)).grow (gb_drew (gb_refl _ _))) ((HA4.out.2.2.setCell (p := ⟨h1, i * 3 + 1, none⟩) (show B ≤ h1 by obtain ⟨_, hq, _⟩ := HA4.out.1.s1; exact hq) (.int .u32 ((c + 1) % 4294967296))).drew))
          rw [hw5] at HA5 ⊢
          clear hw5 y1 y2 x3 r1
          have c7 := (HA5.out.1.sy.cell (j := t * 10 + 7) (by omega) (by omega)).trans HT.out.2.2.2.1.2.2.1
          go_wp2_with (go_at_call 25; refine (has_any _).mono ?_; rintro e w' ⟨rfl, rfl⟩)
          go_roundg (gk - 1)
          case measure => omega
          case rel => exact ⟨k + 1, by go_num, by omega, by omega, Lib.hid ⟨HA5.out.2, _, _, _, _, _, _, D, HA5.out.1.next htn HT.out.1 HH.out.1, HT.out.2.2.2.2.2.2.1, HT.out.2.2.2.2.2.2.2.1, by have := HT.out.2.2.2.2.2.2.2.2.1; omega, by have := HT.out.2.2.2.2.2.2.2.2.2; omega⟩⟩
        · have HH := HBB
          have c7 := (HA4.out.1.sy.cell (j := t * 10 + 7) (by omega) (by omega)).trans HT.out.2.2.2.1.2.2.1
          have r1 : w4.cell? ⟨R, 2, none⟩ = some (.slice (some ⟨h1, 0, none⟩) m1 q1) := HA4.out.1.blk.cell 2
          have hm1 : m1 ≤ 131072 := by have := HT.out.2.2.2.2.2.2.2.2.2; omega
          go_upto_region 15 with (go_at_call 25; refine (has_any _).mono ?_; rintro e w5 ⟨rfl, rfl⟩)
          clear r1 c7
          obtain ⟨i0, hi0, hz0, hz1, hz2⟩ := info_parts info80
          obtain ⟨xs, hx1, hx2, hx3⟩ := HA4.out.1.s1.own
          have HOW := Lib.hid ((World.ownsRow.alloc hx1 (.cells #[.string ⟨#[]⟩, .int .u32 1, .int .u32 0] 80)) : (w5.alloc (.cells #[.string ⟨#[]⟩, .int .u32 1, .int .u32 0] 80)).drew.ownsRow B 80 3 (.slice (some ⟨h1, 0, none⟩) m1 q1) m1 xs)
          have HXX := Lib.hid (And.intro hx2 hx3)
          clear hx1 hx2 hx3
          have hBz : B ≤ w5.heap.size := Nat.le_trans hB HA4.out.2.2.size
          have HNW := Lib.hid (World.news_of_block (w := (w5.alloc (.cells #[.string ⟨#[]⟩, .int .u32 1, .int .u32 0] 80)).drew) (B := w5.heap.size) (heap_alloc_new w5 (.cells #[.string ⟨#[]⟩, .int .u32 1, .int .u32 0] 80)))
          have HS2 := Lib.hid (And.intro (HA4.out.1.blk.alloc (.cells #[.string ⟨#[]⟩, .int .u32 1, .int .u32 0] 80)).drew (HA4.out.2.1.alloc (.cells #[.string ⟨#[]⟩, .int .u32 1, .int .u32 0] 80)).drew)
          have HAP := Lib.hid HA4.out.1.apart
          have HLB := Lib.hid (And.intro HA4.out.1.blk.lt HA4.out.2.1.lt)
          have hBh : Bx ≠ h1 := Ne.symm (HA4.out.1.s1.ne HA4.out.2.1 (by decide))
          have HBH := Lib.hid hBh
          clear hBh
          have r1 : w5.drew.cell? ⟨R, 2, none⟩ = some (.slice (some ⟨h1, 0, none⟩) m1 q1) := HA4.out.1.blk.cell 2
          have x3 : w5.drew.cell? ⟨Bx, 3, none⟩ = some (.int .u32 1) := HA4.out.2.1.cell 3
          have r2 : (w5.alloc (.cells #[.string ⟨#[]⟩, .int .u32 1, .int .u32 0] 80)).drew.cell? ⟨R, 2, none⟩ = some (.slice (some ⟨h1, 0, none⟩) m1 q1) := HS2.out.1.cell 2
          go_region_law (refine step_append_lies _ (by rfl) (.tmp 77) (.tmp 82) 68 (by rfl) B 80 i0 _ 3 24 Tryd.underlying68 hi0 hz0 hz1 hz2 rfl (by omega) (.slice (some ⟨h1, 0, none⟩) m1 q1) m1 xs (by rfl) HOW.out ⟨w5.heap.size, 0, none⟩ 1 1 [.string ⟨#[]⟩, .int .u32 1, .int .u32 0] (by rfl) rfl HNW.out (by simp [Value.oneCell']) (by omega) (by unfold maxLen; omega) (by omega) (by simp; omega) (w5.heap.size + 1) (by simp) ?_; intro g cap w6 ho6 hg6 hat6 hlt6; have hR6 := HS2.out.1.gb hg6 (fun e => HAP.out.2.1.1 (Option.some.inj e)); have HX6 := HS2.out.2.gb hg6 (fun e => HBH.out (Option.some.inj e)); have r6 := hR6.cell 2; have HX7 : Hid ((w6.setCell ⟨R, 2, none⟩ (.slice (some ⟨g, 0, none⟩) (m1 + 1) cap)).cell? ⟨Bx, 3, none⟩ = some (.int .u32 1)) := Lib.hid ((show Blk (w6.setCell ⟨R, 2, none⟩ (.slice (some ⟨g, 0, none⟩) (m1 + 1) cap)) Bx 45 #[.int .u32 0, .int .u32 0, .int .u32 (t : Int), .int .u32 1] from blk_set_ne HX6 (Ne.symm (blk_ne hR6 HX6 (by decide))) 2 none _).cell 3); have H6 := Lib.hid (And.intro (HX6.cell 3) (And.intro ho6 (And.intro hg6 (And.intro hat6 hlt6)))); have f6 := hR6.free 2; clear hR6 HX6; clear ho6 hg6 hat6 hlt6)
          all_goals
            have hA7 := HA4.out.1.app1 (g := g) (cap := cap) (w1 := (w5.alloc (.cells #[.string ⟨#[]⟩, .int .u32 1, .int .u32 0] 80)).drew) (gb_drew (gb_alloc (gb_refl _ _) _)) H6.out.2.2.1 H6.out.2.1 (Els.snoc HXX.out.2 HXX.out.1 1 0) (by
              rcases H6.out.2.2.2.1 with e | e
              · exact .inl (by simpa [Value.ownBlock] using e)
              · exact .inr (by omega))
            have hb7 : Below B w (w6.setCell ⟨R, 2, none⟩ (.slice (some ⟨g, 0, none⟩) (m1 + 1) cap)) := (((HA4.out.2.2.alloc hBz _).drew).grown H6.out.2.2.1 (by simp; omega) (fun q hq => by
              have e : h1 = q := by simpa [Value.ownBlock] using hq
              obtain ⟨_, hq, _⟩ := HA4.out.1.s1
              omega)).setCell (p := ⟨R, 2, none⟩) HA4.out.1.ap.1 _
            have hx7 : Blk (w6.setCell ⟨R, 2, none⟩ (.slice (some ⟨g, 0, none⟩) (m1 + 1) cap)) Bx 45 #[.int .u32 0, .int .u32 0, .int .u32 (t : Int), .int .u32 1] := blk_set_ne (HS2.out.2.gb H6.out.2.2.1 (fun e => HBH.out (by simpa [Value.ownBlock] using e))) (Ne.symm (blk_ne HA4.out.1.blk HA4.out.2.1 (by decide))) 2 none _
            obtain ⟨w7, hw7⟩ : ∃ w7, w6.setCell ⟨R, 2, none⟩ (.slice (some ⟨g, 0, none⟩) (m1 + 1) cap) = w7 := ⟨_, rfl⟩
            rw [hw7] at hA7 hb7 hx7 ⊢
            have r5 : w7.drew.cell? ⟨R, 5, none⟩ = some (.map (some bm)) := hA7.blk.cell 5
            have x1 : w7.drew.cell? ⟨Bx, 1, none⟩ = some (.int .u32 0) := hx7.cell 1
            have x2 : w7.drew.cell? ⟨Bx, 2, none⟩ = some (.int .u32 (t : Int)) := hx7.cell 2
            obtain ⟨w8, hup, hmp, hg8⟩ := put_at (i := m1) (hA7.mp.kept (w' := w7.drew) (gb_drew (gb_refl _ none)) (by simp)) (by unfold maxLen; omega) (show t < 4294967296 by omega) (by omega)
            have HA8 := Lib.hid (And.intro (hA7.putm hn (gb_und hg8) hmp htn HT.out.1 (by rw [HT.out.2.1, if_pos HK.out]; omega)) (hb7.grown (gb_und hg8) (Nat.le_trans hB hb7.size) (fun q hq => by cases hq; exact HA4.out.1.ap.2)))
            clear hA7 hb7 hx7 hw7 hmp hg8
          all_goals
            go_upto_region 16 with fail
            go_region
            all_goals go_wp2_with fail
            all_goals
              go_roundg (gk - 1)
              case measure => omega
              case rel => exact ⟨k + 1, by go_num, by omega, by omega, Lib.hid ⟨HA8.out.2, _, _, _, _, _, _, _, HA8.out.1, HT.out.2.2.2.2.2.2.1, by have := HT.out.2.2.2.2.2.2.2.1; omega, by have := HT.out.2.2.2.2.2.2.2.2.1; omega, by have := HT.out.2.2.2.2.2.2.2.2.2; omega⟩⟩
end Go.Proofs.YtggepefjodgcgaaDoor
