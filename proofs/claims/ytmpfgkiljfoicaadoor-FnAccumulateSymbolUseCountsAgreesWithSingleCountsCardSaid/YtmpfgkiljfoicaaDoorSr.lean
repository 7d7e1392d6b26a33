/-
  zzSortedEntries (a bottom-up merge sort) and zzEntryLess, walked. No statement of the seat is proved here.
-/
import Derived.Test.YtmpfgkiljfoicaaDoorSrt
import Derived.Test.YtmpfgkiljfoicaaDoorBase
import Derived.Test.YtmpfgkiljfoicaaDoorInts
import Derived.Test.YtmpfgkiljfoicaaDoorReg
import Derived.Test.YtmpfgkiljfoicaaDoorFs
import Derived.OwnWalk
import Derived.Deep.Slices
import Derived.Deep.LoopGhost
import Derived.Deep.CutBlock
import Derived.Deep.DeepCutAuto
import Derived.BigQuiet
import Derived.Deep.QuietTactic
import Derived.BigRegion
import Derived.StillTailTactics
namespace Go.Proofs.YtmpfgkiljfoicaaDoor
open Go.RowKit
set_option linter.unusedVariables false
set_option linter.unusedSimpArgs false

def En.cs (e : En) : Array Value := #[.int .u32 e.a, .int .u32 e.b, .int .u32 e.c, .int .u32 e.d]
set_option maxRecDepth 100000 in
theorem less_any (a b c d a' b' c' d' : Int) (w : World) : Calls Tryd.prog 26 #[.agg #[.int .u32 a, .int .u32 b, .int .u32 c, .int .u32 d], .agg #[.int .u32 a', .int .u32 b', .int .u32 c', .int .u32 d']] w fun e w' => e = .returned (.bool (En.lt ⟨a, b, c, d⟩ ⟨a', b', c', d'⟩)) ∧ w.grownBy w' none := by
  obtain ⟨r, hr⟩ : ∃ r, En.lt ⟨a, b, c, d⟩ ⟨a', b', c', d'⟩ = r := ⟨_, rfl⟩
  rw [hr]
  unfold En.lt at hr
  simp only at hr
  have hg : Hid (w.grownBy ((w.alloc (.cells #[.int .u32 a, .int .u32 b, .int .u32 c, .int .u32 d] 50)).alloc (.cells #[.int .u32 a', .int .u32 b', .int .u32 c', .int .u32 d'] 50)) none) := Lib.hid (gb_alloc (gb_alloc (gb_refl _ _) _) _)
  by_cases h1 : a = a'
  · rw [if_pos h1] at hr
    by_cases h2 : b = b'
    · rw [if_pos h2] at hr
      by_cases h3 : c = c'
      · rw [if_pos h3] at hr
        have HR := Lib.hid hr
        subst h1 h2 h3
        clear hr
        go_enter Tryd.func26, Tryd.ntmps26
        go_wp2
        go_ret
        exact ⟨ret_bool HR.out, hg.out⟩
      · rw [if_neg h3] at hr
        have HR := Lib.hid hr
        have d3 : decide (c = c') = false := by simp [h3]
        subst h1 h2
        clear hr
        go_enter Tryd.func26, Tryd.ntmps26
        go_wp2
        go_ret
        exact ⟨ret_bool HR.out, hg.out⟩
    · rw [if_neg h2] at hr
      have HR := Lib.hid hr
      have d2 : decide (b = b') = false := by simp [h2]
      subst h1
      clear hr
      go_enter Tryd.func26, Tryd.ntmps26
      go_wp2
      go_ret
      exact ⟨ret_bool HR.out, hg.out⟩
  · rw [if_neg h1] at hr
    have HR := Lib.hid hr
    have d1 : decide (a = a') = false := by simp [h1]
    clear hr
    go_enter Tryd.func26, Tryd.ntmps26
    go_wp2
    go_ret
    exact ⟨ret_bool HR.out, hg.out⟩
/-- the row in block g holds the entries f 0, f 1, .. -/
structure Er (w : World) (g n : Nat) (f : Nat → En) : Prop where
  out : ∃ cs, Blk w g 50 cs ∧ cs.size = 4 * n ∧ ∀ i, i < n → cs[i * 4]? = some (.int .u32 (f i).a) ∧ cs[i * 4 + 1]? = some (.int .u32 (f i).b) ∧ cs[i * 4 + 2]? = some (.int .u32 (f i).c) ∧ cs[i * 4 + 3]? = some (.int .u32 (f i).d)
theorem Er.gb {w w' : World} {g n : Nat} {f : Nat → En} {r : Option Nat} (h : Er w g n f) (hg : w.grownBy w' r) (hne : some g ≠ r) : Er w' g n f := by
  obtain ⟨cs, h1, h2, h3⟩ := h.out
  exact ⟨cs, h1.gb hg hne, h2, h3⟩
theorem Er.kept {w w' : World} {g n : Nat} {f : Nat → En} (h : Er w g n f) (hb : Below w.heap.size w w') : Er w' g n f := by
  obtain ⟨cs, h1, h2, h3⟩ := h.out
  exact ⟨cs, h1.kept hb, h2, h3⟩
theorem Er.lt {w : World} {g n : Nat} {f : Nat → En} (h : Er w g n f) : g < w.heap.size := by
  obtain ⟨cs, h1, h2, h3⟩ := h.out
  exact h1.lt
theorem Er.cell {w : World} {g n : Nat} {f : Nat → En} (h : Er w g n f) {i : Nat} (hi : i < n) : w.cell? ⟨g, i * 4, none⟩ = some (.int .u32 (f i).a) ∧ w.cell? ⟨g, i * 4 + 1, none⟩ = some (.int .u32 (f i).b) ∧ w.cell? ⟨g, i * 4 + 2, none⟩ = some (.int .u32 (f i).c) ∧ w.cell? ⟨g, i * 4 + 3, none⟩ = some (.int .u32 (f i).d) := by
  obtain ⟨cs, h1, h2, h3⟩ := h.out
  obtain ⟨q0, q1, q2, q3⟩ := h3 i hi
  exact ⟨by rw [h1.cell, q0], by rw [h1.cell, q1], by rw [h1.cell, q2], by rw [h1.cell, q3]⟩
theorem Er.free {w : World} {g n : Nat} {f : Nat → En} (h : Er w g n f) (i : Nat) : w.frozen? ⟨g, i, none⟩ = false := by
  obtain ⟨cs, h1, h2, h3⟩ := h.out
  exact h1.free i
theorem Er.congr {w : World} {g n : Nat} {f f' : Nat → En} (h : Er w g n f) (hf : ∀ i, i < n → f i = f' i) : Er w g n f' := by
  obtain ⟨cs, h1, h2, h3⟩ := h.out
  exact ⟨cs, h1, h2, fun i hi => by rw [← hf i hi]; exact h3 i hi⟩
theorem info50 : (Tryd.prog.info? 50).map (fun i => (i.zero, i.size, i.bytes)) = some (some (.agg #[.int .u32 0, .int .u32 0, .int .u32 0, .int .u32 0]), 4, 16) := by kernel_rfl
theorem size50 : (Tryd.prog.info? 50).map (·.size) = some 4 := by kernel_rfl
theorem one4 (a b c d : Int) : (#[.int .u32 a, .int .u32 b, .int .u32 c, .int .u32 d] : Array Value).all (·.oneCell') = true := by simp [Value.oneCell']
theorem blk_has {w : World} {S : Nat} {t : TypeId} {cs : Array Value} (h : Blk w S t cs) {i : Nat} (hi : i < cs.size) : ∃ u, w.cell? ⟨S, i, none⟩ = some u := ⟨cs[i], by rw [h.cell, Array.getElem?_eq_getElem hi]⟩
theorem Er.has {w : World} {g n : Nat} {f : Nat → En} (h : Er w g n f) {k : Nat} (hk : k < n) (e : En) :
    ∃ u0 u1 u2 u3 : Value, w.cell? ⟨g, k * 4, none⟩ = some u0 ∧ w.frozen? ⟨g, k * 4, none⟩ = false ∧ (w.setCell ⟨g, k * 4, none⟩ (.int .u32 e.a)).cell? ⟨g, k * 4 + 1, none⟩ = some u1 ∧ (w.setCell ⟨g, k * 4, none⟩ (.int .u32 e.a)).frozen? ⟨g, k * 4 + 1, none⟩ = false ∧
      ((w.setCell ⟨g, k * 4, none⟩ (.int .u32 e.a)).setCell ⟨g, k * 4 + 1, none⟩ (.int .u32 e.b)).cell? ⟨g, k * 4 + 2, none⟩ = some u2 ∧ ((w.setCell ⟨g, k * 4, none⟩ (.int .u32 e.a)).setCell ⟨g, k * 4 + 1, none⟩ (.int .u32 e.b)).frozen? ⟨g, k * 4 + 2, none⟩ = false ∧
      (((w.setCell ⟨g, k * 4, none⟩ (.int .u32 e.a)).setCell ⟨g, k * 4 + 1, none⟩ (.int .u32 e.b)).setCell ⟨g, k * 4 + 2, none⟩ (.int .u32 e.c)).cell? ⟨g, k * 4 + 3, none⟩ = some u3 ∧ (((w.setCell ⟨g, k * 4, none⟩ (.int .u32 e.a)).setCell ⟨g, k * 4 + 1, none⟩ (.int .u32 e.b)).setCell ⟨g, k * 4 + 2, none⟩ (.int .u32 e.c)).frozen? ⟨g, k * 4 + 3, none⟩ = false := by
  obtain ⟨cs, h1, h2, h3⟩ := h.out
  have q1 := h1.set (k * 4) (.int .u32 e.a)
  have q2 := q1.set (k * 4 + 1) (.int .u32 e.b)
  have q3 := q2.set (k * 4 + 2) (.int .u32 e.c)
  obtain ⟨u0, c0⟩ := blk_has h1 (i := k * 4) (by omega)
  obtain ⟨u1, c1⟩ := blk_has q1 (i := k * 4 + 1) (by simp; omega)
  obtain ⟨u2, c2⟩ := blk_has q2 (i := k * 4 + 2) (by simp; omega)
  obtain ⟨u3, c3⟩ := blk_has q3 (i := k * 4 + 3) (by simp; omega)
  exact ⟨u0, u1, u2, u3, c0, h1.free _, c1, q1.free _, c2, q2.free _, c3, q3.free _⟩
/-- the world behind a store -/
def st4 (w : World) (g k : Nat) (e : En) : World := (((w.setCell ⟨g, k * 4, none⟩ (.int .u32 e.a)).setCell ⟨g, k * 4 + 1, none⟩ (.int .u32 e.b)).setCell ⟨g, k * 4 + 2, none⟩ (.int .u32 e.c)).setCell ⟨g, k * 4 + 3, none⟩ (.int .u32 e.d)
theorem st4_gb (w : World) (g k : Nat) (e : En) : w.grownBy (st4 w g k e) (some g) := gb_set (gb_set (gb_set (gb_set (gb_refl _ _) _ _ _) _ _ _) _ _ _) _ _ _
/-- an entry is stored -/
theorem Er.put {w : World} {g n : Nat} {f : Nat → En} (h : Er w g n f) {k : Nat} (hk : k < n) (e : En) : Er (st4 w g k e) g n (upd f k e) := by
  obtain ⟨cs, h1, h2, h3⟩ := h.out
  refine ⟨_, (((h1.set _ _).set _ _).set _ _).set _ _, by simp [h2], fun i hi => ?_⟩
  by_cases e' : i = k
  · subst e'
    rw [upd_at]
    refine ⟨?_, ?_, ?_, ?_⟩
    · rw [Array.getElem?_setIfInBounds_ne (by omega), Array.getElem?_setIfInBounds_ne (by omega), Array.getElem?_setIfInBounds_ne (by omega)]
      exact Array.getElem?_setIfInBounds_self_of_lt (by omega)
    · rw [Array.getElem?_setIfInBounds_ne (by omega), Array.getElem?_setIfInBounds_ne (by omega)]
      exact Array.getElem?_setIfInBounds_self_of_lt (by simp; omega)
    · rw [Array.getElem?_setIfInBounds_ne (by omega)]
      exact Array.getElem?_setIfInBounds_self_of_lt (by simp; omega)
    · exact Array.getElem?_setIfInBounds_self_of_lt (by simp; omega)
  · rw [upd_ne _ _ e']
    obtain ⟨q0, q1, q2, q3⟩ := h3 i hi
    refine ⟨?_, ?_, ?_, ?_⟩ <;> (repeat rw [Array.getElem?_setIfInBounds_ne (by omega)]) <;> assumption
theorem keep8 {w w' : World} {g o p : Nat} {a b c d a' b' c' d' : Value} (hg : w.drew.grownBy w' none) (x0 : w.cell? ⟨g, o, none⟩ = some a) (x1 : w.cell? ⟨g, o + 1, none⟩ = some b) (x2 : w.cell? ⟨g, o + 2, none⟩ = some c) (x3 : w.cell? ⟨g, o + 3, none⟩ = some d)
    (y0 : w.cell? ⟨g, p, none⟩ = some a') (y1 : w.cell? ⟨g, p + 1, none⟩ = some b') (y2 : w.cell? ⟨g, p + 2, none⟩ = some c') (y3 : w.cell? ⟨g, p + 3, none⟩ = some d') :
    w'.cell? ⟨g, o, none⟩ = some a ∧ w'.cell? ⟨g, o + 1, none⟩ = some b ∧ w'.cell? ⟨g, o + 2, none⟩ = some c ∧ w'.cell? ⟨g, o + 3, none⟩ = some d ∧ w'.cell? ⟨g, p, none⟩ = some a' ∧ w'.cell? ⟨g, p + 1, none⟩ = some b' ∧ w'.cell? ⟨g, p + 2, none⟩ = some c' ∧ w'.cell? ⟨g, p + 3, none⟩ = some d' := by
  have k : ∀ {i : Nat} {v : Value}, w.cell? ⟨g, i, none⟩ = some v → w'.cell? ⟨g, i, none⟩ = some v := fun {i v} h => (World.cell?_of_block (w := w) (hg.block g (World.block_lt_of_cell? w _ h) (by simp))).trans h
  exact ⟨k x0, k x1, k x2, k x3, k y0, k y1, k y2, k y3⟩
def zen : En := ⟨0, 0, 0, 0⟩
theorem Er.made {w w' : World} {n : Nat} (h : w'.ownsRow w.heap.size 50 4 (.slice (some ⟨w.heap.size, 0, none⟩) n n) n (madeCells (Value.agg #[.int .u32 0, .int .u32 0, .int .u32 0, .int .u32 0]).cells (n * 4)).toList) : Er w' w.heap.size n (fun _ => zen) := by
  rcases h.2 with ⟨h, hm⟩ | ⟨g, cap, cur, hv, _, hh, _, _, hcs, htk⟩
  · cases h
  · simp only [Value.slice.injEq, Option.some.injEq, Addr.mk.injEq, and_true, true_and] at hv
    obtain ⟨rfl, rfl⟩ := hv
    have hcur : cur = madeCells (Value.agg #[.int .u32 0, .int .u32 0, .int .u32 0, .int .u32 0]).cells (n * 4) := by
      apply Array.ext'
      rw [← htk, List.take_of_length_le (by simp [hcs])]
    refine ⟨cur, hh, by omega, fun i hi => ?_⟩
    rw [hcur]
    have h0 : (i * 4) % 4 = 0 := by omega
    have h1 : (i * 4 + 1) % 4 = 1 := by omega
    have h2 : (i * 4 + 2) % 4 = 2 := by omega
    have h3 : (i * 4 + 3) % 4 = 3 := by omega
    refine ⟨?_, ?_, ?_, ?_⟩ <;> (rw [Array.getElem?_eq_getElem (by simp [madeCells, Value.cells]; omega)])
    · simp [madeCells, Value.cells, h0, zen]
    · simp [madeCells, Value.cells, h1, zen]
    · simp [madeCells, Value.cells, h2, zen]
    · simp [madeCells, Value.cells, h3, zen]
/-- the entries that come in -/
def Ei (w : World) (a : Option Addr) (n : Nat) (f : Nat → En) : Prop := 0 < n → ∃ g, a = some ⟨g, 0, none⟩ ∧ g < w.heap.size ∧ ∀ i, i < n → w.cell? ⟨g, i * 4, none⟩ = some (.int .u32 (f i).c) ∧ w.cell? ⟨g, i * 4 + 1, none⟩ = some (.int .u32 (f i).d) ∧ w.cell? ⟨g, i * 4 + 2, none⟩ = some (.int .u32 (f i).a) ∧ w.cell? ⟨g, i * 4 + 3, none⟩ = some (.int .u32 (f i).b)
/-- the two rows under way -/
structure S2 (w wx : World) (g d n : Nat) (f e : Nat → En) : Prop where
  src : Er wx g n f
  dst : Er wx d n e
  ne : g ≠ d
  le : w.heap.size ≤ g ∧ w.heap.size ≤ d
  bl : Below w.heap.size w wx
theorem S2.swap {w wx : World} {g d n : Nat} {f e : Nat → En} (h : S2 w wx g d n f e) : S2 w wx d g n e f := ⟨h.dst, h.src, Ne.symm h.ne, ⟨h.le.2, h.le.1⟩, h.bl⟩
theorem S2.grow {w wx wy : World} {g d n : Nat} {f e : Nat → En} (h : S2 w wx g d n f e) (hg : wx.grownBy wy none) : S2 w wy g d n f e := ⟨h.src.gb hg (by simp), h.dst.gb hg (by simp), h.ne, h.le, h.bl.grown hg h.bl.size (fun k hk => by cases hk)⟩
theorem S2.put {w wx : World} {g d n k : Nat} {f e : Nat → En} (h : S2 w wx g d n f e) (hk : k < n) (v : En) : S2 w (st4 wx d k v) g d n f (upd e k v) :=
  ⟨h.src.gb (st4_gb _ _ _ _) (fun e => h.ne (Option.some.inj e)), h.dst.put hk v, h.ne, h.le, h.bl.grown (st4_gb wx d k v) h.bl.size (fun k hk => by cases hk; exact h.le.2)⟩
set_option maxHeartbeats 8000000 in
set_option maxRecDepth 100000 in
theorem sort_any (a : Option Addr) (n cap : Nat) (f : Nat → En) (hn : n ≤ 65536) (w : World) (hin : Ei w a n f) :
    Calls Tryd.prog 11 #[.slice a n cap] w fun e w' => ∃ g F, e = .returned (.slice (some ⟨g, 0, none⟩) n n) ∧ Er w' g n F ∧ (sg F 0 n).Perm (sg f 0 n) ∧ Asc F 0 n ∧ Below w.heap.size w w' := by
  have HIN := Lib.hid hin
  clear hin
  obtain ⟨G, hG⟩ : ∃ G, w.heap.size = G := ⟨_, rfl⟩
  go_enter Tryd.func11, Tryd.ntmps11
  go_upto_region 3 with (at_make; obtain ⟨i0, hi0, hz0, hz1, hz2⟩ := info_parts info50; refine wpList_make_full w rfl _ _ 47 rfl w.heap.size 50 i0 _ 4 Tryd.underlying47 hi0 hz0 hz1 .i64 .i64 n n n rfl rfl rfl rfl (by rw [hz2]; omega) (by unfold maxLen; omega) (by simp) ?_; intro w2 ho2 hg2; have HM := Lib.hid (And.intro ho2 hg2); clear ho2 hg2)
  have H0 : Hid (Er w2 G n (fun _ => zen) ∧ Below w.heap.size w w2) := Lib.hid (by
    have h := Er.made HM.out.1
    rw [hG] at h
    exact ⟨h, (Below.refl _ _).grown HM.out.2 (Nat.le_refl _) (fun k hk => by cases hk)⟩)
  clear HM
  have HGG := Lib.hid hG
  clear hG
  go_wp2_with fail
  go_loopg [5] n (fun k a' wx => ∃ (i : Nat) (F : Nat → En), a' = .int .i64 (i : Int) ∧ i ≤ n ∧ n - i ≤ k ∧ Hid (Er wx G n F ∧ (∀ x, x < i → F x = f x) ∧ Below w.heap.size w wx))
  case atStart => exact ⟨0, _, rfl, by omega, by omega, Lib.hid ⟨H0.out.1, fun x hx => by omega, H0.out.2⟩⟩
  case round =>
    obtain ⟨i, F, rfl, hi, hk, HL⟩ := hrel
    obtain ⟨wz, rfl⟩ : ∃ wz : World, wz = wr := ⟨_, rfl⟩
    rcases (show n = i ∨ i < n by omega) with he | hlt
    · obtain rfl := he
      have HR1 : Hid (Er wz G n f ∧ Below w.heap.size w wz) := Lib.hid ⟨HL.out.1.congr HL.out.2.1, HL.out.2.2⟩
      go_upto_region 8 with (at_make; obtain ⟨i0, hi0, hz0, hz1, hz2⟩ := info_parts info50; refine wpList_make_full wz rfl _ _ 47 rfl wz.heap.size 50 i0 _ 4 Tryd.underlying47 hi0 hz0 hz1 .i64 .i64 n n n rfl rfl rfl rfl (by rw [hz2]; omega) (by unfold maxLen; omega) (by simp) ?_; intro w4 ho2 hg2; have HM := Lib.hid (And.intro ho2 hg2); clear ho2 hg2)
      obtain ⟨D, hD⟩ : ∃ D, wz.heap.size = D := ⟨_, rfl⟩
      have HS : Hid (S2 w w4 G D n f (fun _ => zen) ∧ (sg f 0 n).Perm (sg f 0 n) ∧ AscB f 1 n) := Lib.hid (by
        have h := Er.made HM.out.1
        rw [hD] at h
        have hl := HR1.out.1.lt
        have hb := HR1.out.2.size
        have hg := HGG.out
        exact ⟨⟨HR1.out.1.gb HM.out.2 (by simp), h, by omega, by omega, HR1.out.2.grown HM.out.2 hb (fun k hk => by cases hk)⟩, List.Perm.refl _, AscB.one f n⟩)
      rw [hD]
      clear HM HR1 HL hD
      go_wp2_with fail
      go_loopg [4, 6, 7, 8, 9, 10, 11, 12, 13] n (fun k a4 a6 a7 _ _ _ _ _ _ wx => ∃ (g d wd : Nat) (F e : Nat → En), a4 = .slice (some ⟨g, 0, none⟩) n n ∧ a6 = .slice (some ⟨d, 0, none⟩) n n ∧ a7 = .int .i64 (wd : Int) ∧ 1 ≤ wd ∧ wd ≤ 131072 ∧ n - wd ≤ k ∧ Hid (S2 w wx g d n F e ∧ (sg F 0 n).Perm (sg f 0 n) ∧ AscB F wd n))
      case atStart => exact ⟨G, D, 1, f, _, rfl, rfl, rfl, by omega, by omega, by omega, HS⟩
      case round =>
        obtain ⟨g, d, wd, F, e, rfl, rfl, rfl, hw1, hw2, hk2, HW⟩ := hrel
        obtain ⟨wx, rfl⟩ : ∃ wx : World, wx = wr := ⟨_, rfl⟩
        obtain ⟨gO, rfl⟩ : ∃ gO, gO = gk := ⟨_, rfl⟩
        rcases (show n ≤ wd ∨ wd < n by omega) with hwn | hwn
        · have HE := Lib.hid hwn
          clear hk2
          go_wp2_with fail
          go_ret
          exact ⟨g, F, rfl, HW.out.1.src, HW.out.2.1, HW.out.2.2.all HE.out, HW.out.1.bl⟩
        · go_wp2_with fail
          go_loopg [8, 9, 10, 11, 12, 13] n (fun k a8 _ _ _ _ _ wy => ∃ (lo b : Nat) (e' : Nat → En), a8 = .int .i64 (lo : Int) ∧ lo ≤ 262144 ∧ n - lo ≤ k ∧ Hid (S2 w wy g d n F e' ∧ Md F e' wd n lo b))
          case atStart => exact ⟨0, 0, e, rfl, by omega, by omega, Lib.hid ⟨HW.out.1, Md.start F e wd n⟩⟩
          case round =>
            obtain ⟨lo, b, e', rfl, hl1, hk3, HM⟩ := hrel
            obtain ⟨wy, rfl⟩ : ∃ wy : World, wy = wr := ⟨_, rfl⟩
            obtain ⟨gM, rfl⟩ : ∃ gM, gM = gk := ⟨_, rfl⟩
            rcases (show n ≤ lo ∨ lo < n by omega) with hln | hln
            · have HE := Lib.hid hln
              have hm64 : IntKind.i64.wrap ((wd : Int) * 2) = ((2 * wd : Nat) : Int) := by rw [IntKind.wrap_i64]; omega
              go_wp2_with fail
              go_roundg (gO - 1)
              case measure => omega
              case rel =>
                have hst := HM.out.2.stop hln
                exact ⟨d, g, 2 * wd, e', F, rfl, rfl, by go_num, by omega, by omega, by omega, Lib.hid ⟨HM.out.1.swap, hst.1.trans HW.out.2.1, hst.2⟩⟩
            · go_upto_if 68 with fail
              go_cut [9] (fun x wc => x = .int .i64 ((min (lo + wd) n : Nat) : Int) ∧ wy = wc)
              case first =>
                by_cases hmn : lo + wd ≤ n
                · have e : min (lo + wd) n = lo + wd := by omega
                  have HE := Lib.hid e
                  clear e
                  go_wp2_with fail
                  go_meet
                  exact ⟨by rw [HE.out]; go_num, rfl⟩
                · have e : min (lo + wd) n = n := by omega
                  have HE := Lib.hid e
                  clear e
                  go_wp2_with fail
                  go_meet
                  exact ⟨by rw [HE.out], rfl⟩
              case rest =>
                obtain ⟨rfl, rfl⟩ := hcut
                obtain ⟨mid, hmid⟩ : ∃ mid, min (lo + wd) n = mid := ⟨_, rfl⟩
                rw [hmid]
                go_upto_if 76 with fail
                go_cut [10] (fun x wc => x = .int .i64 ((min (lo + 2 * wd) n : Nat) : Int) ∧ wy = wc)
                case first =>
                  by_cases hmn : lo + 2 * wd ≤ n
                  · have e : min (lo + 2 * wd) n = lo + 2 * wd := by omega
                    have HE := Lib.hid e
                    clear e
                    go_wp2_with fail
                    go_meet
                    exact ⟨by rw [HE.out]; go_num, rfl⟩
                  · have e : min (lo + 2 * wd) n = n := by omega
                    have HE := Lib.hid e
                    clear e
                    go_wp2_with fail
                    go_meet
                    exact ⟨by rw [HE.out], rfl⟩
                case rest =>
                  obtain ⟨rfl, rfl⟩ := hcut
                  obtain ⟨hh, hhi⟩ : ∃ hh, min (lo + 2 * wd) n = hh := ⟨_, rfl⟩
                  rw [hhi]
                  have hmm : lo ≤ mid ∧ mid ≤ hh ∧ hh ≤ n := by omega
                  have HHALF : Hid (Asc F lo mid ∧ Asc F mid hh) := Lib.hid (by
                    have h := Md.halves HW.out.2.2 HM.out.2.at_
                    rw [hmid, hhi] at h
                    exact h)
                  have HMH := Lib.hid (And.intro hmid hhi)
                  clear hmid hhi
                  go_wp2_with fail
                  go_loopg [11, 12, 13] hh (fun k a11 a12 a13 wv => ∃ (i j q : Nat) (u : Nat → En), a11 = .int .i64 (i : Int) ∧ a12 = .int .i64 (j : Int) ∧ a13 = .int .i64 (q : Int) ∧ hh - q ≤ k ∧ Hid (S2 w wv g d n F u ∧ Mi F u lo mid hh i j q ∧ ∀ x, x < lo → u x = e' x))
                  case atStart => exact ⟨lo, mid, lo, e', rfl, rfl, rfl, by omega, Lib.hid ⟨HM.out.1, Mi.start F e' hmm.1 hmm.2.1, fun _ _ => rfl⟩⟩
                  case round =>
                    obtain ⟨i, j, k, u, rfl, rfl, rfl, hk4, HT⟩ := hrel
                    obtain ⟨wv, rfl⟩ : ∃ wv : World, wv = wr := ⟨_, rfl⟩
                    obtain ⟨hr1, hr2, hr3, hr4, hr5⟩ := HT.out.2.1.r
                    rcases (show k = hh ∨ k < hh by omega) with he | hkh
                    · have HE := Lib.hid he
                      subst he
                      go_wp2_with fail
                      go_roundg (gM - 1)
                      case measure => omega
                      case rel =>
                        have hst := HT.out.2.1.stop rfl
                        have h3 := HMH.out.2
                        have hnx := HM.out.2.next hln (d' := u) (by rw [h3]; exact hst.1) (by rw [h3]; exact hst.2) HT.out.2.2
                        exact ⟨lo + 2 * wd, b + 1, u, by go_num, by omega, by omega, Lib.hid ⟨HT.out.1, hnx⟩⟩
                    · by_cases him : i < mid
                      · by_cases hjh : j < hh
                        · obtain ⟨bb, hbb⟩ : ∃ bb, (F j).lt (F i) = bb := ⟨_, rfl⟩
                          obtain ⟨x0, x1, x2, x3⟩ := HT.out.1.src.cell (i := j) (by omega)
                          obtain ⟨y0, y1, y2, y3⟩ := HT.out.1.src.cell (i := i) (by omega)
                          have HLS := Lib.hid (fun (w : World) => less_any (F j).a (F j).b (F j).c (F j).d (F i).a (F i).b (F i).c (F i).d w)
                          have hbb2 : En.lt ⟨(F j).a, (F j).b, (F j).c, (F j).d⟩ ⟨(F i).a, (F i).b, (F i).c, (F i).d⟩ = bb := hbb
                          rw [hbb2] at HLS
                          have HBB := Lib.hid hbb
                          clear hbb hbb2
                          obtain ⟨vj, hvj⟩ : ∃ v, F j = v := ⟨_, rfl⟩
                          obtain ⟨vi, hvi⟩ : ∃ v, F i = v := ⟨_, rfl⟩
                          rw [hvj] at x0 x1 x2 x3
                          rw [hvi] at y0 y1 y2 y3
                          rw [hvj, hvi] at HLS
                          have HVJ := Lib.hid (And.intro hvj hvi)
                          clear hvj hvi
                          have d4 : decide ((i : Int) < (mid : Int)) = true := by simp; omega
                          have d5 : decide ((hh : Int) ≤ (j : Int)) = false := by simp; omega
                          cases bb
                          · go_upto_region 25 with fail
                            have X0 : wv.drew.cell? ⟨g, j * 4, none⟩ = some (.int .u32 vj.a) := x0
                            have X1 : wv.drew.cell? ⟨g, j * 4 + 1, none⟩ = some (.int .u32 vj.b) := x1
                            have X2 : wv.drew.cell? ⟨g, j * 4 + 2, none⟩ = some (.int .u32 vj.c) := x2
                            have X3 : wv.drew.cell? ⟨g, j * 4 + 3, none⟩ = some (.int .u32 vj.d) := x3
                            have Y0 : wv.drew.cell? ⟨g, i * 4, none⟩ = some (.int .u32 vi.a) := y0
                            have Y1 : wv.drew.cell? ⟨g, i * 4 + 1, none⟩ = some (.int .u32 vi.b) := y1
                            have Y2 : wv.drew.cell? ⟨g, i * 4 + 2, none⟩ = some (.int .u32 vi.c) := y2
                            have Y3 : wv.drew.cell? ⟨g, i * 4 + 3, none⟩ = some (.int .u32 vi.d) := y3
                            have hjn : j < n := by omega
                            have hin : i < n := by omega
                            go_still_tail 16, (by kernel_rfl)
                            change wpList _ _ _ _ _ wv.drew
                            go_upto_region 26 with (go_at_call 26; refine (HLS.out _).mono ?_; rintro e7 w7 ⟨rfl, hg7⟩; have HG7 := Lib.hid hg7; clear hg7)
                            have HT2 : Hid (S2 w w7 g d n F u ∧ Mi F u lo mid hh i j k ∧ ∀ x, x < lo → u x = e' x) := Lib.hid ⟨HT.out.1.grow (gb_und HG7.out), HT.out.2⟩
                            have HTC : Hid (j < hh → (F j).lt (F i) = false) := Lib.hid (fun _ => HBB.out)
                            clear x0 x1 x2 x3 y0 y1 y2 y3 X0 X1 X2 X3 Y0 Y1 Y2 Y3
                            have hs := HT2.out.1
                            obtain ⟨q0, q1, q2, q3⟩ := hs.src.cell (i := i) (by omega)
                            obtain ⟨c0, c1, c2, c3⟩ := hs.dst.cell (i := k) (by omega)
                            have f0 := hs.dst.free (k * 4)
                            have f1 := hs.dst.free (k * 4 + 1)
                            have f2 := hs.dst.free (k * 4 + 2)
                            have f3 := hs.dst.free (k * 4 + 3)
                            have lg := hs.src.lt
                            have ld := hs.dst.lt
                            obtain ⟨v, hv⟩ : ∃ v, F i = v := ⟨_, rfl⟩
                            rw [hv] at q0 q1 q2 q3
                            have HP := Lib.hid (hs.put (k := k) (by omega) v)
                            have HVV := Lib.hid hv
                            clear hs hv
                            go_wp2_with fail
                            go_roundg (gk - 1)
                            case measure => omega
                            case rel => exact ⟨i + 1, j, k + 1, upd u k v, by go_num, by go_num, by go_num, by omega, Lib.hid ⟨HP.out, by rw [← HVV.out]; exact HT2.out.2.1.left HHALF.out.1 (by omega) HTC.out, fun x hx => by rw [upd_ne _ _ (by omega)]; exact HT2.out.2.2 x hx⟩⟩
                          · go_upto_region 25 with fail
                            have X0 : wv.drew.cell? ⟨g, j * 4, none⟩ = some (.int .u32 vj.a) := x0
                            have X1 : wv.drew.cell? ⟨g, j * 4 + 1, none⟩ = some (.int .u32 vj.b) := x1
                            have X2 : wv.drew.cell? ⟨g, j * 4 + 2, none⟩ = some (.int .u32 vj.c) := x2
                            have X3 : wv.drew.cell? ⟨g, j * 4 + 3, none⟩ = some (.int .u32 vj.d) := x3
                            have Y0 : wv.drew.cell? ⟨g, i * 4, none⟩ = some (.int .u32 vi.a) := y0
                            have Y1 : wv.drew.cell? ⟨g, i * 4 + 1, none⟩ = some (.int .u32 vi.b) := y1
                            have Y2 : wv.drew.cell? ⟨g, i * 4 + 2, none⟩ = some (.int .u32 vi.c) := y2
                            have Y3 : wv.drew.cell? ⟨g, i * 4 + 3, none⟩ = some (.int .u32 vi.d) := y3
                            have hjn : j < n := by omega
                            have hin : i < n := by omega
                            go_still_tail 16, (by kernel_rfl)
                            change wpList _ _ _ _ _ wv.drew
                            go_upto_region 28 with (go_at_call 26; refine (HLS.out _).mono ?_; rintro e7 w7 ⟨rfl, hg7⟩; have HG7 := Lib.hid hg7; clear hg7)
                            have HT2 : Hid (S2 w w7 g d n F u ∧ Mi F u lo mid hh i j k ∧ ∀ x, x < lo → u x = e' x) := Lib.hid ⟨HT.out.1.grow (gb_und HG7.out), HT.out.2⟩
                            have HTC : Hid (i < mid → (F j).lt (F i) = true) := Lib.hid (fun _ => HBB.out)
                            clear x0 x1 x2 x3 y0 y1 y2 y3 X0 X1 X2 X3 Y0 Y1 Y2 Y3
                            have hs := HT2.out.1
                            obtain ⟨q0, q1, q2, q3⟩ := hs.src.cell (i := j) (by omega)
                            obtain ⟨c0, c1, c2, c3⟩ := hs.dst.cell (i := k) (by omega)
                            have f0 := hs.dst.free (k * 4)
                            have f1 := hs.dst.free (k * 4 + 1)
                            have f2 := hs.dst.free (k * 4 + 2)
                            have f3 := hs.dst.free (k * 4 + 3)
                            have lg := hs.src.lt
                            have ld := hs.dst.lt
                            obtain ⟨v, hv⟩ : ∃ v, F j = v := ⟨_, rfl⟩
                            rw [hv] at q0 q1 q2 q3
                            have HP := Lib.hid (hs.put (k := k) (by omega) v)
                            have HVV := Lib.hid hv
                            clear hs hv
                            go_wp2_with fail
                            go_roundg (gk - 1)
                            case measure => omega
                            case rel => exact ⟨i, j + 1, k + 1, upd u k v, by go_num, by go_num, by go_num, by omega, Lib.hid ⟨HP.out, by rw [← HVV.out]; exact HT2.out.2.1.right HHALF.out.2 (by omega) HTC.out, fun x hx => by rw [upd_ne _ _ (by omega)]; exact HT2.out.2.2 x hx⟩⟩
                        · have d4 : decide ((i : Int) < (mid : Int)) = true := by simp; omega
                          have d5 : decide ((hh : Int) ≤ (j : Int)) = true := by simp; omega
                          have HTC : Hid (j < hh → (F j).lt (F i) = false) := Lib.hid (fun h => absurd h hjh)
                          go_wp2_with fail
                          go_quiet (fail)
                          obtain ⟨wq, hwq⟩ : ∃ wq, wv.drewN nq = wq := ⟨_, rfl⟩
                          rw [hwq]
                          have HT2 : Hid (S2 w wq g d n F u ∧ Mi F u lo mid hh i j k ∧ ∀ x, x < lo → u x = e' x) := Lib.hid (by rw [← hwq]; exact ⟨HT.out.1.grow ⟨rfl, rfl, rfl, Nat.le_refl _, fun _ _ _ => rfl⟩, HT.out.2⟩)
                          clear hwq
                          have hs := HT2.out.1
                          obtain ⟨q0, q1, q2, q3⟩ := hs.src.cell (i := i) (by omega)
                          obtain ⟨c0, c1, c2, c3⟩ := hs.dst.cell (i := k) (by omega)
                          have f0 := hs.dst.free (k * 4)
                          have f1 := hs.dst.free (k * 4 + 1)
                          have f2 := hs.dst.free (k * 4 + 2)
                          have f3 := hs.dst.free (k * 4 + 3)
                          have lg := hs.src.lt
                          have ld := hs.dst.lt
                          obtain ⟨v, hv⟩ : ∃ v, F i = v := ⟨_, rfl⟩
                          rw [hv] at q0 q1 q2 q3
                          have HP := Lib.hid (hs.put (k := k) (by omega) v)
                          have HVV := Lib.hid hv
                          clear hs hv
                          go_wp2_with fail
                          go_roundg (gk - 1)
                          case measure => omega
                          case rel => exact ⟨i + 1, j, k + 1, upd u k v, by go_num, by go_num, by go_num, by omega, Lib.hid ⟨HP.out, by rw [← HVV.out]; exact HT2.out.2.1.left HHALF.out.1 (by omega) HTC.out, fun x hx => by rw [upd_ne _ _ (by omega)]; exact HT2.out.2.2 x hx⟩⟩
                      · have d4 : decide ((i : Int) < (mid : Int)) = false := by simp; omega
                        have HTC : Hid (i < mid → (F j).lt (F i) = true) := Lib.hid (fun h => absurd h him)
                        go_wp2_with fail
                        go_quiet (fail)
                        obtain ⟨wq, hwq⟩ : ∃ wq, wv.drewN nq = wq := ⟨_, rfl⟩
                        rw [hwq]
                        have HT2 : Hid (S2 w wq g d n F u ∧ Mi F u lo mid hh i j k ∧ ∀ x, x < lo → u x = e' x) := Lib.hid (by rw [← hwq]; exact ⟨HT.out.1.grow ⟨rfl, rfl, rfl, Nat.le_refl _, fun _ _ _ => rfl⟩, HT.out.2⟩)
                        clear hwq
                        have hs := HT2.out.1
                        obtain ⟨q0, q1, q2, q3⟩ := hs.src.cell (i := j) (by omega)
                        obtain ⟨c0, c1, c2, c3⟩ := hs.dst.cell (i := k) (by omega)
                        have f0 := hs.dst.free (k * 4)
                        have f1 := hs.dst.free (k * 4 + 1)
                        have f2 := hs.dst.free (k * 4 + 2)
                        have f3 := hs.dst.free (k * 4 + 3)
                        have lg := hs.src.lt
                        have ld := hs.dst.lt
                        obtain ⟨v, hv⟩ : ∃ v, F j = v := ⟨_, rfl⟩
                        rw [hv] at q0 q1 q2 q3
                        have HP := Lib.hid (hs.put (k := k) (by omega) v)
                        have HVV := Lib.hid hv
                        clear hs hv
                        go_wp2_with fail
                        go_roundg (gk - 1)
                        case measure => omega
                        case rel => exact ⟨i, j + 1, k + 1, upd u k v, by go_num, by go_num, by go_num, by omega, Lib.hid ⟨HP.out, by rw [← HVV.out]; exact HT2.out.2.1.right HHALF.out.2 (by omega) HTC.out, fun x hx => by rw [upd_ne _ _ (by omega)]; exact HT2.out.2.2 x hx⟩⟩
    · obtain ⟨g0, rfl, hg0, hc⟩ := HIN.out (by omega)
      obtain ⟨k0, k1, k2, k3⟩ := hc i hlt
      have hb := HL.out.2.2
      have m0 : wz.drew.cell? ⟨g0, i * 4, none⟩ = some (.int .u32 (f i).c) := (hb.cell (p := ⟨g0, i * 4, none⟩) hg0).trans k0
      have m1 : wz.drew.cell? ⟨g0, i * 4 + 1, none⟩ = some (.int .u32 (f i).d) := (hb.cell (p := ⟨g0, i * 4 + 1, none⟩) hg0).trans k1
      have m2 : wz.drew.cell? ⟨g0, i * 4 + 1 + 1, none⟩ = some (.int .u32 (f i).a) := (hb.cell (p := ⟨g0, i * 4 + 2, none⟩) hg0).trans k2
      have m3 : wz.drew.cell? ⟨g0, i * 4 + 3, none⟩ = some (.int .u32 (f i).b) := (hb.cell (p := ⟨g0, i * 4 + 3, none⟩) hg0).trans k3
      obtain ⟨c0, c1, c2, c3⟩ := HL.out.1.cell hlt
      have f0 := HL.out.1.free (i * 4)
      have f1 := HL.out.1.free (i * 4 + 1)
      have f2 := HL.out.1.free (i * 4 + 2)
      have f3 := HL.out.1.free (i * 4 + 3)
      have HN : Hid (Er (st4 wz G i (f i)) G n (upd F i (f i)) ∧ (∀ x, x < i + 1 → upd F i (f i) x = f x) ∧ Below w.heap.size w (st4 wz G i (f i))) := Lib.hid ⟨HL.out.1.put hlt _, fun x hx => by
          by_cases e : x = i
          · subst e; exact upd_at _ _ _
          · rw [upd_ne _ _ e]; exact HL.out.2.1 x (by omega), HL.out.2.2.grown (st4_gb _ _ _ _) HL.out.2.2.size (fun k hk => by cases hk; have := HGG.out; omega)⟩
      obtain ⟨v, hv⟩ : ∃ v, f i = v := ⟨_, rfl⟩
      rw [hv] at m0 m1 m2 m3 HN
      clear hb k0 k1 k2 k3 hc hv
      go_upto_region 6 with fail
      go_region
      go_wp2_with fail
      go_roundg (gk - 1)
      case measure => omega
      case rel => exact ⟨i + 1, _, by go_num, by omega, by omega, Lib.hid ⟨HN.out.1.gb (r := none) (gb_drew (gb_refl _ _)) (by simp), HN.out.2.1, HN.out.2.2.grown (gb_drew (gb_refl _ none)) HN.out.2.2.size (fun k hk => by cases hk)⟩⟩
end Go.Proofs.YtmpfgkiljfoicaaDoor
