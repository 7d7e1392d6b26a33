/-
  The symbol table of one source in memory, SymbolMap.Get and FollowSymbols (which shortens links as it goes). No statement of the seat is proved here.
-/
import Derived.Test.YtmfhoeihdikklaaFmtRows
import Derived.WalkKit
import Derived.ProofKit
import Derived.WalkSpells
import Derived.RegionTactic
import Derived.BigQuiet
import Derived.Deep.QuietTactic
import Derived.Deep.RegionWith
import Derived.Deep.RegionHeld
import Derived.Deep.DeepCutAuto
import Derived.OwnWalk
import Derived.Test.YtmfhoeihdikklaaFmtStrs
import Derived.Test.YtmfhoeihdikklaaFmtReg
namespace Go.Proofs.YtmfhoeihdikklaaFmt
open Go.RowKit
set_option linter.unusedVariables false
set_option linter.unusedSimpArgs false

/-- the link of symbol i, as it stands: none (then i is its own root), or a symbol nearer to the root -/
def Lk (n : Nat) (root rk : Nat → Nat) (cs : Array Value) (i : Nat) : Prop :=
  (cs[i * 10 + 2]? = some (.int .u32 4294967295) ∧ cs[i * 10 + 3]? = some (.int .u32 4294967295) ∧ root i = i) ∨
  (∃ j, j < n ∧ cs[i * 10 + 2]? = some (.int .u32 0) ∧ cs[i * 10 + 3]? = some (.int .u32 (j : Int)) ∧ rk j < rk i ∧ root j = root i)
/-- the table: block T (row of one slice and more), block S (n symbols of ten cells; all but the links as in ks) -/
structure Sy (w : World) (T S tl n : Nat) (ks : Array Value) (root rk : Nat → Nat) : Prop where
  out : ∃ ts cs, Blk w T 44 ts ∧ ts.size = tl ∧ ts[0]? = some (.slice (some ⟨S, 0, none⟩) n n) ∧ 0 < tl ∧ Blk w S 55 cs ∧ cs.size = 10 * n ∧ (∀ j, j % 10 ≠ 2 → j % 10 ≠ 3 → cs[j]? = ks[j]?) ∧ ∀ i, i < n → Lk n root rk cs i
theorem Sy.gb {w w' : World} {T S tl n : Nat} {ks : Array Value} {root rk : Nat → Nat} {r : Option Nat} (h : Sy w T S tl n ks root rk) (hg : w.grownBy w' r) (hT : some T ≠ r) (hS : some S ≠ r) : Sy w' T S tl n ks root rk := by
  obtain ⟨ts, cs, h1, h2, h3, h4, h5, h6⟩ := h.out
  exact ⟨ts, cs, h1.gb hg hT, h2, h3, h4, h5.gb hg hS, h6⟩
theorem Sy.lt {w : World} {T S tl n : Nat} {ks : Array Value} {root rk : Nat → Nat} (h : Sy w T S tl n ks root rk) : T < w.heap.size ∧ S < w.heap.size := by
  obtain ⟨ts, cs, h1, h2, h3, h4, h5, h6⟩ := h.out
  exact ⟨h1.lt, h5.lt⟩
set_option maxRecDepth 100000 in
theorem get_any (T S tl tc n : Nat) (ks : Array Value) (root rk : Nat → Nat) (i : Nat) (w : World) (h : Sy w T S tl n ks root rk) (hi : i < n) :
    Calls Tryf.prog 23 #[.agg #[.slice (some ⟨T, 0, none⟩) tl tc], .agg #[.int .u32 0, .int .u32 (i : Int)]] w fun e w' => e = .returned (.pointer (some ⟨S, i * 10, none⟩)) ∧ w.grownBy w' none := by
  obtain ⟨ts, cs, h1, h2, h3, h4, h5, h6, h7, h8⟩ := h.out
  have c0 := ((((h1.alloc (.cells #[.slice (some ⟨T, 0, none⟩) tl tc] 67)).alloc (.cells #[.int .u32 0, .int .u32 (i : Int)] 47)).drew).cell 0).trans h3
  have hb1 := ((Blk.new w 67 #[.slice (some ⟨T, 0, none⟩) tl tc]).alloc (.cells #[.int .u32 0, .int .u32 (i : Int)] 47)).drew
  have hb2 := (Blk.new (w.alloc (.cells #[.slice (some ⟨T, 0, none⟩) tl tc] 67)) 47 #[.int .u32 0, .int .u32 (i : Int)]).drew
  rw [show (w.alloc (.cells #[.slice (some ⟨T, 0, none⟩) tl tc] 67)).heap.size = w.heap.size + 1 by simp] at hb2
  have d0 := hb1.cell 0
  have f0 := hb2.cell 0
  have f1 := hb2.cell 1
  have lt0 := h1.lt
  have h4' : (0 : Int) < (tl : Int) := by omega
  have hg : Hid (w.grownBy ((w.alloc (.cells #[.slice (some ⟨T, 0, none⟩) tl tc] 67)).alloc (.cells #[.int .u32 0, .int .u32 (i : Int)] 47)).drew none) := Lib.hid (gb_drew (gb_alloc (gb_alloc (gb_refl _ _) _) _))
  clear h h1 h2 h3 h5 h6 h7 h8 hb1 hb2
  go_enter Tryf.func23, Tryf.ntmps23
  go_wp2_with fail
  go_region
  all_goals (try go_wp2)
  all_goals go_ret
  all_goals exact ⟨rfl, hg.out⟩

/-- the variable 'InvalidRef' as its initialiser leaves it -/
def Iv (w : World) : Prop := w.cell? ⟨0, 0, none⟩ = some (.int .u32 4294967295) ∧ w.cell? ⟨0, 1, none⟩ = some (.int .u32 4294967295)
theorem Iv.gb {w w' : World} {r : Option Nat} (h : Iv w) (hg : w.grownBy w' r) (hr : some 0 ≠ r) : Iv w' := by
  have hl : 0 < w.heap.size := World.block_lt_of_cell? w _ h.1
  have e := hg.block 0 hl hr
  exact ⟨(World.cell?_of_block (w := w) e).trans h.1, (World.cell?_of_block (w := w) e).trans h.2⟩
theorem Sy.set {w : World} {T S tl n : Nat} {ks : Array Value} {root rk : Nat → Nat} (h : Sy w T S tl n ks root rk) (hTS : S ≠ T) {i j : Nat} (hi : i < n) (hj : j < n) (hr : root j = root i) (hk : rk j < rk i) :
    Sy ((w.setCell ⟨S, i * 10 + 2, none⟩ (.int .u32 0)).setCell ⟨S, i * 10 + 3, none⟩ (.int .u32 (j : Int))) T S tl n ks root rk := by
  obtain ⟨ts, cs, h1, h2, h3, h4, h5, h6, h7, h8⟩ := h.out
  refine ⟨ts, _, blk_set_ne (blk_set_ne h1 (Ne.symm hTS) _ _ _) (Ne.symm hTS) _ _ _, h2, h3, h4, (h5.set _ _).set _ _, by simp [h6], ?_, ?_⟩
  · intro k k1 k2
    rw [Array.getElem?_setIfInBounds_ne (by omega), Array.getElem?_setIfInBounds_ne (by omega)]
    exact h7 k k1 k2
  · intro k hk'
    by_cases e : k = i
    · subst e
      refine .inr ⟨j, hj, ?_, ?_, hk, hr⟩
      · rw [Array.getElem?_setIfInBounds_ne (by omega), Array.getElem?_setIfInBounds_self_of_lt (by omega)]
      · rw [Array.getElem?_setIfInBounds_self_of_lt (by simp; omega)]
    · have := h8 k hk'
      unfold Lk at this ⊢
      rw [Array.getElem?_setIfInBounds_ne (by omega), Array.getElem?_setIfInBounds_ne (by omega), Array.getElem?_setIfInBounds_ne (by omega), Array.getElem?_setIfInBounds_ne (by omega)]
      exact this
/-- a struct of cells is stored in the midst of a block -/
theorem wpList_store_at {P : Program} {ops : Array Oper} {rest : List Oper} {o : Oper} {a : Act} {w : World} {Q : Exit → Act → World → Prop} (hgd : o.guard = none) (t : TypeId) (x y : Operand) (ho : o.op = .store t x y)
    (b off : Nat) (e : TypeId) (old cells : Array Value) (hb : Blk w b e old) (hx : a.eval x = .pointer (some ⟨b, off, none⟩)) (hy : a.eval y = .agg cells) (hold : off + cells.size ≤ old.size)
    (hi : (P.info? t).map (·.size) = some cells.size) (h1 : cells.all (·.oneCell') = true)
    (h : wpList P ops Q rest (a.put o.dst undef) (w.setCells b off cells.toList)) : wpList P ops Q (o :: rest) a w :=
  wpList_plain hgd fun _ hK => wp_store_mid t x y ho b off cells hx hy (fun j hj => by rw [hb.cell, hb.free]; exact ⟨by rw [Array.getElem?_eq_getElem (by omega)]; rfl, rfl⟩) hi h1 (hK _ _ h)
theorem one2 (a b : Int) : (#[.int .u32 a, .int .u32 b] : Array Value).all (·.oneCell') = true := by simp [Value.oneCell']
theorem info38 : (Tryf.prog.info? 47).map (·.size) = some 2 := by kernel_rfl
theorem gb_past {a b c : World} {r : Option Nat} {g : Nat} (h : a.grownBy b r) (k : b.grownBy c (some g)) (hg : a.heap.size ≤ g) : a.grownBy c r :=
  ⟨k.os.trans h.os, k.tape.trans h.tape, k.output.trans h.output, Nat.le_trans h.size k.size, fun i hi hne => (k.block i (Nat.lt_of_lt_of_le hi h.size) (fun e => by cases e; omega)).trans (h.block i hi hne)⟩
theorem gb_none {a b : World} {r : Option Nat} (h : a.grownBy b none) : a.grownBy b r := ⟨h.os, h.tape, h.output, h.size, fun i hi _ => h.block i hi (fun e => by cases e)⟩
theorem Sy.drew {w : World} {T S tl n : Nat} {ks : Array Value} {root rk : Nat → Nat} (h : Sy w T S tl n ks root rk) : Sy w.drew T S tl n ks root rk := h.gb (r := some (T + S + 1)) (gb_drew (gb_refl _ _)) (fun e => by cases e) (fun e => by cases e)
theorem Iv.drew {w : World} (h : Iv w) : Iv w.drew := h
theorem gb_und {a b : World} {r : Option Nat} (h : a.drew.grownBy b r) : a.grownBy b r := ⟨h.os, h.tape, h.output, h.size, h.block⟩
/-- the three boxes of a call of FollowSymbols -/
def Bx (w : World) (T tl tc A i : Nat) (r : Array Value) : Prop := Blk w A 67 #[.slice (some ⟨T, 0, none⟩) tl tc] ∧ Blk w (A + 1) 47 #[.int .u32 0, .int .u32 (i : Int)] ∧ Blk w (A + 1 + 1) 47 r
theorem Bx.gb {w w' : World} {T tl tc A i S : Nat} {r : Array Value} (h : Bx w T tl tc A i r) (hg : w.grownBy w' (some S)) (hS : S < A) : Bx w' T tl tc A i r :=
  ⟨h.1.gb hg (fun e => by have := Option.some.inj e; omega), h.2.1.gb hg (fun e => by have := Option.some.inj e; omega), h.2.2.gb hg (fun e => by have := Option.some.inj e; omega)⟩
/-- what stands behind 'link := FollowSymbols(..)' -/
def Rl (w : World) (T S tl tc n A i R : Nat) (ks : Array Value) (root rk : Nat → Nat) (v : Value) (wc : World) : Prop :=
  ∃ B, v = .pointer (some ⟨B, 0, none⟩) ∧ A + 1 + 1 < B ∧ Blk wc B 47 #[.int .u32 0, .int .u32 (R : Int)] ∧ Bx wc T tl tc A i #[.int .u32 0, .int .u32 0] ∧ Sy wc T S tl n ks root rk ∧ w.grownBy wc (some S)
theorem Rl.of {w w5 w6 : World} {T S tl tc n A i R : Nat} {ks : Array Value} {root rk : Nat → Nat} (hb : Bx w5 T tl tc A i #[.int .u32 0, .int .u32 0]) (hs6 : Sy w6 T S tl n ks root rk) (hg : w.grownBy w5 none) (hg6 : w5.grownBy w6 (some S)) (hS : S < A) :
    Rl w T S tl tc n A i R ks root rk (.pointer (some ⟨w6.heap.size, 0, none⟩)) (w6.alloc (.cells #[.int .u32 0, .int .u32 (R : Int)] 47)) :=
  ⟨_, rfl, Nat.lt_of_lt_of_le hb.2.2.lt hg6.size, Blk.new _ _ _, (hb.gb hg6 hS).gb (gb_none (gb_alloc (gb_refl _ none) _)) hS, hs6.gb (gb_alloc (gb_refl _ none) _) (by simp) (by simp), gb_trans (gb_none hg) (gb_alloc hg6 _)⟩
theorem Rl.of2 {w w5 w6 : World} {T S tl tc n A i R : Nat} {ks : Array Value} {root rk : Nat → Nat} (hb : Bx w5 T tl tc A i #[.int .u32 0, .int .u32 0]) (hs6 : Sy w6 T S tl n ks root rk) (hg : w.grownBy w5 none) (hg6 : w5.grownBy w6 (some S)) (hS : S < A) (hT : T < A)
    (hn : Blk w6 w5.heap.size 47 #[.int .u32 0, .int .u32 0]) (hA : w.heap.size = A) :
    Rl w T S tl tc n A i R ks root rk (.pointer (some ⟨w5.heap.size, 0, none⟩)) ((w6.setCell ⟨w5.heap.size, 0, none⟩ (.int .u32 0)).setCell ⟨w5.heap.size, 1, none⟩ (.int .u32 (R : Int))) := by
  have hB := hb.2.2.lt
  have hg7 : w6.grownBy ((w6.setCell ⟨w5.heap.size, 0, none⟩ (.int .u32 0)).setCell ⟨w5.heap.size, 1, none⟩ (.int .u32 (R : Int))) (some w5.heap.size) := gb_set (gb_set (gb_refl _ _) _ _ _) _ _ _
  have hb6 := hb.gb hg6 hS
  refine ⟨_, rfl, hB, (hn.set 0 _).set 1 _, ⟨hb6.1.gb hg7 (fun e => by have := Option.some.inj e; omega), hb6.2.1.gb hg7 (fun e => by have := Option.some.inj e; omega), hb6.2.2.gb hg7 (fun e => by have := Option.some.inj e; omega)⟩, hs6.gb hg7 (fun e => by have := Option.some.inj e; omega) (fun e => by have := Option.some.inj e; omega), gb_past (gb_trans (gb_none hg) hg6) hg7 (by have := hg.size; omega)⟩
set_option maxRecDepth 100000 in
set_option maxHeartbeats 1000000 in
theorem fol_any (T S tl tc n : Nat) (ks : Array Value) (root rk : Nat → Nat) (hTS : S ≠ T) (hT0 : 0 ≠ T) (hS0 : 0 ≠ S) (hH : ∀ j, j < n → root j < n ∧ rk (root j) ≤ rk j ∧ root (root j) = root j) :
    ∀ (m i : Nat) (w : World), rk i < m → i < n → Sy w T S tl n ks root rk → Iv w →
    Calls Tryf.prog 22 #[.agg #[.slice (some ⟨T, 0, none⟩) tl tc], .agg #[.int .u32 0, .int .u32 (i : Int)]] w fun e w' => e = .returned (.agg #[.int .u32 0, .int .u32 (root i : Int)]) ∧ Sy w' T S tl n ks root rk ∧ w.grownBy w' (some S) := by
  intro m
  induction m with
  | zero => intro i w h; omega
  | succ m ih =>
    intro i w hm hi hs hv
    have HG := Lib.hid (fun (w : World) (h : Sy w T S tl n ks root rk) => get_any T S tl tc n ks root rk i w h hi)
    have lts := hs.lt
    have lt0 : 0 < w.heap.size := World.block_lt_of_cell? w _ hv.1
    have hz : (zeroValue 47).run Tryf.prog w = .ok (.agg #[.int .u32 0, .int .u32 0]) w := by kernel_rfl
    have hb1 := (((Blk.new w 67 #[.slice (some ⟨T, 0, none⟩) tl tc]).alloc (.cells #[.int .u32 0, .int .u32 (i : Int)] 47)).alloc (.cells #[.int .u32 0, .int .u32 0] 47))
    have hb2 := ((Blk.new (w.alloc (.cells #[.slice (some ⟨T, 0, none⟩) tl tc] 67)) 47 #[.int .u32 0, .int .u32 (i : Int)]).alloc (.cells #[.int .u32 0, .int .u32 0] 47))
    have hb3 := (Blk.new ((w.alloc (.cells #[.slice (some ⟨T, 0, none⟩) tl tc] 67)).alloc (.cells #[.int .u32 0, .int .u32 (i : Int)] 47)) 47 #[.int .u32 0, .int .u32 0])
    have g3 : w.grownBy (((w.alloc (.cells #[.slice (some ⟨T, 0, none⟩) tl tc] 67)).alloc (.cells #[.int .u32 0, .int .u32 (i : Int)] 47)).alloc (.cells #[.int .u32 0, .int .u32 0] 47)) none := gb_alloc (gb_alloc (gb_alloc (gb_refl _ _) _) _) _
    rw [show (w.alloc (.cells #[.slice (some ⟨T, 0, none⟩) tl tc] 67)).heap.size = w.heap.size + 1 by simp] at hb2
    rw [show ((w.alloc (.cells #[.slice (some ⟨T, 0, none⟩) tl tc] 67)).alloc (.cells #[.int .u32 0, .int .u32 (i : Int)] 47)).heap.size = w.heap.size + 1 + 1 by simp] at hb3
    have H3 := Lib.hid (And.intro (HG.out _ (hs.gb g3 (by simp) (by simp))) (And.intro hb1 (And.intro hb2 (And.intro hb3 (And.intro g3 (And.intro hs hv))))))
    clear hb1 hb2 hb3 g3 HG
    obtain ⟨A, hA⟩ : ∃ A, w.heap.size = A := ⟨_, rfl⟩
    go_enter Tryf.func22, Tryf.ntmps22
    go_upto_region 2 with (go_at_call 23; refine H3.out.1.mono ?_; rintro e w4 ⟨rfl, hg4⟩)
    have HW : Hid (Bx w4 T tl tc A i #[.int .u32 0, .int .u32 0] ∧ Sy w4 T S tl n ks root rk ∧ Iv w4 ∧ w.grownBy w4 none) := Lib.hid (by
      obtain ⟨_, hb1, hb2, hb3, g3, hs, hv⟩ := H3.out
      have g4 := gb_trans g3 hg4
      rw [hA] at hb1 hb2 hb3
      exact ⟨⟨hb1.gb hg4 (by simp), hb2.gb hg4 (by simp), hb3.gb hg4 (by simp)⟩, hs.gb g4 (by simp) (by simp), hv.gb g4 (by simp), g4⟩)
    clear hg4 H3 hs hv
    have b20 := HW.out.1.2.1.drew.cell 0
    have b21 := HW.out.1.2.1.drew.cell 1
    have l2 := HW.out.1.2.1.lt
    have i0 : w4.drew.cell? ⟨0, 0, none⟩ = some (.int .u32 4294967295) := HW.out.2.2.1.1
    have i1 : w4.drew.cell? ⟨0, 1, none⟩ = some (.int .u32 4294967295) := HW.out.2.2.1.2
    obtain ⟨ts, cs, q1, q2, q3, q4, q5, q6, q7, q8⟩ := HW.out.2.1.out
    have qi := q8 i hi
    have c2 := q5.drew.cell (i * 10 + 2)
    have c3 := q5.drew.cell (i * 10 + 2 + 1)
    have f2 := q5.drew.free (i * 10 + 2)
    clear q1 q2 q3 q4 q5 q6 q7 q8
    rcases qi with ⟨k2, k3, kr⟩ | ⟨j, hj, k2, k3, kk, kr⟩
    · rw [k2] at c2
      rw [k3] at c3
      have b30 := HW.out.1.2.2.drew.cell 0
      have b31 := HW.out.1.2.2.drew.cell 1
      have z30 := HW.out.1.2.2.drew.free 0
      have z31 := HW.out.1.2.2.drew.free 1
      have l3 := HW.out.1.2.2.lt
      clear k2 k3
      go_region
      go_wp2_with (refine wpList_store_blk rfl 47 (.tmp 4) (.tmp 16) rfl (A + 1 + 1) #[.int .u32 0, .int .u32 0] #[.int .u32 0, .int .u32 (i : Int)] HW.out.1.2.2.drew rfl rfl rfl info38 (one2 _ _) ?_; intro w5 hb5 hg5)
      refine bodyPost_ret (v := .agg #[.int .u32 0, .int .u32 (i : Int)]) (results_cell_row (d := _) Tryf.results22 _ _ (A + 1 + 1) 47 _ (0, 0) (by rfl) hb5 Tryf.underlying47 rfl (by kernel_rfl)) rfl ?_
      have g5 : w.grownBy w5 none := gb_past (gb_drew HW.out.2.2.2) hg5 (by omega)
      exact ⟨by rw [kr], HW.out.2.1.drew.gb (r := some (A + 1 + 1)) hg5 (fun e => by cases e; omega) (fun e => by cases e; omega), gb_none g5⟩
    · rw [k2] at c2
      rw [k3] at c3
      have hne : decide ((0 : Int) = 4294967295) = false := by decide
      have hjm : rk j < m := by omega
      have HI : Hid (∀ wx, Sy wx T S tl n ks root rk → Iv wx → Calls Tryf.prog 22 #[.agg #[.slice (some ⟨T, 0, none⟩) tl tc], .agg #[.int .u32 0, .int .u32 (j : Int)]] wx fun e w' => e = .returned (.agg #[.int .u32 0, .int .u32 (root j : Int)]) ∧ Sy w' T S tl n ks root rk ∧ wx.grownBy w' (some S)) := Lib.hid (fun wx h1 h2 => ih j wx hjm hj h1 h2)
      clear ih
      have HD : Hid (Bx w4.drew T tl tc A i #[.int .u32 0, .int .u32 0] ∧ Sy w4.drew T S tl n ks root rk ∧ Iv w4.drew ∧ w.grownBy w4.drew none) := Lib.hid ⟨HW.out.1, HW.out.2.1.drew, HW.out.2.2.1, gb_drew HW.out.2.2.2⟩
      clear HW k2 k3
      go_region
      go_upto_region 4 with fail
      generalize w4.drew = w5 at *
      have a0 := HD.out.1.1.drew.cell 0
      have la := HD.out.1.1.lt
      have C2 : w5.drew.cell? ⟨S, i * 10 + 2, none⟩ = some (.int .u32 0) := c2
      have C3 : w5.drew.cell? ⟨S, i * 10 + 2 + 1, none⟩ = some (.int .u32 (j : Int)) := c3
      clear b20 b21 c2 c3 f2 i0 i1 l2
      go_cut [6] (fun v wc => Rl w T S tl tc n A i (root i) ks root rk v wc)
      case first =>
        have HN : Hid (Calls Tryf.prog 22 #[.agg #[.slice (some ⟨T, 0, none⟩) tl tc], .agg #[.int .u32 0, .int .u32 (j : Int)]] (w5.alloc (.cells #[.int .u32 0, .int .u32 0] 47)).drew fun e w' => e = .returned (.agg #[.int .u32 0, .int .u32 (root j : Int)]) ∧ Sy w' T S tl n ks root rk ∧ w5.grownBy w' (some S) ∧ Blk w' w5.heap.size 47 #[.int .u32 0, .int .u32 0]) := Lib.hid (by
          have g := gb_drew (gb_alloc (gb_refl w5 none) (.cells #[.int .u32 0, .int .u32 0] 47))
          refine (HI.out _ (HD.out.2.1.gb g (by simp) (by simp)) (HD.out.2.2.1.gb g (by simp))).mono ?_
          rintro e w' ⟨h1, h2, h3⟩
          have hl := HD.out.2.1.lt
          exact ⟨h1, h2, gb_trans (gb_none g) h3, (Blk.new w5 47 #[.int .u32 0, .int .u32 0]).drew.gb h3 (fun e => by cases e; omega)⟩)
        have D2 := cell_dr (cell_al (o := .cells #[.int .u32 0, .int .u32 0] 47) (show w5.cell? ⟨S, i * 10 + 2, none⟩ = some (.int .u32 0) from C2))
        have D3 := cell_dr (cell_al (o := .cells #[.int .u32 0, .int .u32 0] 47) (show w5.cell? ⟨S, i * 10 + 2 + 1, none⟩ = some (.int .u32 (j : Int)) from C3))
        have D0 := cell_dr (cell_al (o := .cells #[.int .u32 0, .int .u32 0] 47) (show w5.cell? ⟨A, 0, none⟩ = some (.slice (some ⟨T, 0, none⟩) tl tc) from a0))
        go_region_with (go_at_call 22; first
          | (refine (HI.out w5.drew HD.out.2.1.drew HD.out.2.2.1).mono ?_; rintro e w6 ⟨rfl, hs6, hg6⟩; have H6 := Lib.hid (And.intro hs6 hg6); clear hs6 hg6)
          | (refine HN.out.mono ?_; rintro e w6 ⟨rfl, hs6, hg6, hb6⟩; have z0 := hb6.cell 0; have z1 := hb6.cell 1; have y0 := hb6.free 0; have y1 := hb6.free 1; have hl6 := hb6.lt; have z2 := (hb6.set 0 (.int .u32 0)).cell 1; have y2 := (hb6.set 0 (.int .u32 0)).free 1; have H6 := Lib.hid (And.intro hs6 (And.intro hg6 hb6)); clear hs6 hg6 hb6))
        all_goals go_wp2_with fail
        all_goals go_meet
        all_goals first
          | exact Rl.of HD.out.1 H6.out.1 HD.out.2.2.2 (gb_und H6.out.2) (by omega)
          | exact Rl.of2 HD.out.1 H6.out.1 HD.out.2.2.2 H6.out.2.1 (by omega) (by omega) H6.out.2.2 hA
      case rest =>
        obtain ⟨B, rfl, hAB, hbB, hbx, hsc, hgc⟩ := hcut
        have hgB := hbB.lt
        have p0 := hbB.drew.cell 0
        have p1 := hbB.drew.cell 1
        have HX := Lib.hid (And.intro hbB (And.intro hbx (And.intro hsc hgc)))
        obtain ⟨ts, cs, q1, q2, q3, q4, q5, q6, q7, q8⟩ := hsc.out
        have qi := q8 i hi
        have c2 := q5.drew.cell (i * 10 + 2)
        have c3 := q5.drew.cell (i * 10 + 2 + 1)
        have HS := Lib.hid q5
        have hsz := q6
        clear q1 q2 q3 q4 q5 q7 q8 C2 C3 a0 la hbB hbx hsc hgc
        have hroot := hH j hj
        rw [kr] at hroot
        obtain ⟨j', k2, k3⟩ : ∃ j' : Nat, cs[i * 10 + 2]? = some (.int .u32 0) ∧ cs[i * 10 + 2 + 1]? = some (.int .u32 (j' : Int)) := by
          rcases qi with ⟨k2, k3, kr'⟩ | ⟨j', hj', k2, k3, _, _⟩
          · rw [kr'] at hroot; omega
          · exact ⟨j', k2, k3⟩
        rw [k2] at c2
        rw [k3] at c3
        clear qi k2 k3
        by_cases hjj : j' = root i
        · subst hjj
          go_upto_region 5 with fail
          go_region
          go_wp2_with (refine wpList_store_blk rfl 47 (.tmp 4) (.tmp 33) rfl (A + 1 + 1) #[.int .u32 0, .int .u32 0] #[.int .u32 0, .int .u32 (root i : Int)] HX.out.2.1.2.2.drew rfl rfl rfl info38 (one2 _ _) ?_; intro w9 hb9 hg9)
          refine bodyPost_ret (v := .agg #[.int .u32 0, .int .u32 (root i : Int)]) (results_cell_row (d := _) Tryf.results22 _ _ (A + 1 + 1) 47 _ (0, 0) (by rfl) hb9 Tryf.underlying47 rfl (by kernel_rfl)) rfl ?_
          exact ⟨rfl, HX.out.2.2.1.drew.gb (r := some (A + 1 + 1)) hg9 (fun e => by have := Option.some.inj e; omega) (fun e => by have := Option.some.inj e; omega), gb_past (gb_drew HX.out.2.2.2) hg9 (by omega)⟩
        · have hjb : decide ((j' : Int) = (root i : Int)) = false := by simp; omega
          go_upto_region 5 with fail
          go_region
          go_wp2_with (first
            | (refine wpList_store_at rfl 47 (.tmp 32) (.tmp 30) rfl S (i * 10 + 2) 55 cs #[.int .u32 0, .int .u32 (root i : Int)] HS.out.drew rfl rfl (by simp; omega) info38 (one2 _ _) ?_
               obtain ⟨w8, hw8⟩ : ∃ w8, wc.drew.setCells S (i * 10 + 2) (#[.int .u32 0, .int .u32 (root i : Int)] : Array Value).toList = w8 := ⟨_, rfl⟩
               rw [hw8]
               have hg8 : wc.drew.grownBy w8 (some S) := by rw [← hw8]; exact setCells_gb _ _ _
               have hs8 : Sy w8 T S tl n ks root rk := by rw [← hw8]; exact HX.out.2.2.1.drew.set hTS hi hroot.1 hroot.2.2 (by omega)
               have hx8 := HX.out.2.1.gb (w' := w8) (gb_und hg8) (by omega)
               have hbB8 := HX.out.1.drew.gb hg8 (fun e => by have := Option.some.inj e; omega)
               have P0 := hbB8.cell 0
               have P1 := hbB8.cell 1
               have PL := hbB8.lt
               have H8 := Lib.hid (And.intro hg8 (And.intro hs8 hx8))
               clear hg8 hs8 hx8 hbB8 hw8)
            | (refine wpList_store_blk rfl 47 (.tmp 4) (.tmp 33) rfl (A + 1 + 1) #[.int .u32 0, .int .u32 0] #[.int .u32 0, .int .u32 (root i : Int)] H8.out.2.2.2.2 rfl rfl rfl info38 (one2 _ _) ?_; intro w9 hb9 hg9))
          refine bodyPost_ret (v := .agg #[.int .u32 0, .int .u32 (root i : Int)]) (results_cell_row (d := _) Tryf.results22 _ _ (A + 1 + 1) 47 _ (0, 0) (by rfl) hb9 Tryf.underlying47 rfl (by kernel_rfl)) rfl ?_
          exact ⟨rfl, H8.out.2.1.gb (r := some (A + 1 + 1)) hg9 (fun e => by have := Option.some.inj e; omega) (fun e => by have := Option.some.inj e; omega), gb_past (gb_trans (gb_drew HX.out.2.2.2) H8.out.1) hg9 (by omega)⟩
end Go.Proofs.YtmfhoeihdikklaaFmt
