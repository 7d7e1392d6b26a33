/-
  The law's walk. No statement of the seat is proved here.
-/
import Derived.Test.YtggepefjodgcgaaDoorRt
import Derived.Deep.DeepCutAuto
import Derived.Deep.CutBlock
namespace Go.Proofs.YtggepefjodgcgaaDoor
open Go.RowKit
set_option linter.unusedVariables false
set_option linter.unusedSimpArgs false

theorem Iv.below {w w' : World} (h : Iv w) (hb : Below w.heap.size w w') : Iv w' := by
  have hl : 0 < w.heap.size := World.block_lt_of_cell? w _ h.1
  exact ⟨(hb.cell (p := ⟨0, 0, none⟩) hl).trans h.1, (hb.cell (p := ⟨0, 1, none⟩) hl).trans h.2⟩
/-- the five arguments as they read -/
structure Ar5 (w : World) (a0 a1 a2 a3 a4 : Option Addr) (ts : List ByteArray) (ks ls ns ps : List Int) : Prop where
  i0 : InS w a0 ts
  i1 : In .u8 w a1 ks
  i2 : In .u32 w a2 ls
  i3 : In .u32 w a3 ns
  i4 : In .u32 w a4 ps
theorem Ar5.kept {w w' : World} {a0 a1 a2 a3 a4 : Option Addr} {ts : List ByteArray} {ks ls ns ps : List Int} (h : Ar5 w a0 a1 a2 a3 a4 ts ks ls ns ps) (hb : Below w.heap.size w w') : Ar5 w' a0 a1 a2 a3 a4 ts ks ls ns ps :=
  ⟨h.i0.kept hb, h.i1.kept hb, h.i2.kept hb, h.i3.kept hb, h.i4.kept hb⟩
theorem cu' (ao : Option Addr) (n cap : Nat) (zs : List Int) (w : World) (hn : zs.length = n) (hin : In .u32 w ao zs) (hl : n ≤ 65536) : Calls Tryd.prog 8 #[.slice ao n cap] w fun e w' => ∃ ao' cap', e = .returned (.slice ao' n cap') ∧ In .u32 w' ao' zs ∧ Below w.heap.size w w' := by
  subst hn
  refine (cu_any ao cap zs w hin (by omega)).mono ?_
  rintro e w' ⟨ao', cap', h1, h2, h3⟩
  exact ⟨ao', cap', h1, Cloned.in' h2, h3⟩
theorem c8' (ao : Option Addr) (n cap : Nat) (zs : List Int) (w : World) (hn : zs.length = n) (hin : In .u8 w ao zs) (hl : n ≤ 65536) : Calls Tryd.prog 7 #[.slice ao n cap] w fun e w' => ∃ ao' cap', e = .returned (.slice ao' n cap') ∧ In .u8 w' ao' zs ∧ Below w.heap.size w w' := by
  subst hn
  refine (c8_any ao cap zs w hin (by omega)).mono ?_
  rintro e w' ⟨ao', cap', h1, h2, h3⟩
  exact ⟨ao', cap', h1, Cloned.in' h2, h3⟩
theorem cs' (ao : Option Addr) (n cap : Nat) (zs : List ByteArray) (w : World) (hn : zs.length = n) (hin : InS w ao zs) (hl : n ≤ 65536) : Calls Tryd.prog 6 #[.slice ao n cap] w fun e w' => ∃ ao' cap', e = .returned (.slice ao' n cap') ∧ InS w' ao' zs ∧ Below w.heap.size w w' := by
  subst hn
  refine (cs_any ao cap zs w hin (by omega)).mono ?_
  rintro e w' ⟨ao', cap', h1, h2, h3⟩
  exact ⟨ao', cap', h1, ClonedS.in' h2, h3⟩
/-- after a step: the arguments read as before, the variable holds, nothing old has turned -/
def Ok (w0 w : World) (a0 a1 a2 a3 a4 : Option Addr) (ts : List ByteArray) (ks ls ns ps : List Int) : Prop := Ar5 w a0 a1 a2 a3 a4 ts ks ls ns ps ∧ Iv w ∧ Below w0.heap.size w0 w
theorem Ok.kept {w0 w w' : World} {a0 a1 a2 a3 a4 : Option Addr} {ts : List ByteArray} {ks ls ns ps : List Int} (h : Ok w0 w a0 a1 a2 a3 a4 ts ks ls ns ps) (hb : Below w.heap.size w w') : Ok w0 w' a0 a1 a2 a3 a4 ts ks ls ns ps :=
  ⟨h.1.kept hb, h.2.1.below hb, h.2.2.trans (hb.mono h.2.2.size)⟩
theorem New.kept {w w' : World} {B R T bm g0 g1 g2 g3 c0 c1 c2 c3 : Nat} (h : New w B R T bm g0 g1 g2 g3 c0 c1 c2 c3) (hb : Below w.heap.size w w') : New w' B R T bm g0 g1 g2 g3 c0 c1 c2 c3 :=
  ⟨h.blk.kept hb, h.r0.kept hb, h.r1.kept hb, h.r2.kept hb, h.r3.kept hb, below_blk hb h.map (blk_lt h.map), h.ne, h.le⟩
theorem Sy.kept {w w' : World} {T S tl n : Nat} {ks : Array Value} {root rk : Nat → Nat} (h : Sy w T S tl n ks root rk) (hb : Below w.heap.size w w') : Sy w' T S tl n ks root rk := by
  obtain ⟨ts, cs, q1, q2, q3, q4, q5, q6⟩ := h.out
  exact ⟨ts, cs, q1.kept hb, q2, q3, q4, q5.kept hb, q6⟩
theorem ar_info : (Tryd.prog.info? 45).map (fun i => (i.zero, i.size, i.bytes)) = some (some (.agg (ints .u32 (List.replicate 4 0))), 4, 16) := by kernel_rfl
/-- four cells of an element are stored -/
theorem put4 {w : World} {S : Nat} {cs : Array Value} (h : Blk w S 45 cs) (o : Nat) (ho : o + 4 ≤ cs.size) (t : Int) :
    (∃ u0 u1 u2 u3 : Value, (w.cell? ⟨S, o, none⟩ = some u0 ∧ w.frozen? ⟨S, o, none⟩ = false ∧ (w.setCell ⟨S, o, none⟩ (.int .u32 0)).cell? ⟨S, o + 1, none⟩ = some u1 ∧ (w.setCell ⟨S, o, none⟩ (.int .u32 0)).frozen? ⟨S, o + 1, none⟩ = false ∧
      ((w.setCell ⟨S, o, none⟩ (.int .u32 0)).setCell ⟨S, o + 1, none⟩ (.int .u32 0)).cell? ⟨S, o + 2, none⟩ = some u2 ∧ ((w.setCell ⟨S, o, none⟩ (.int .u32 0)).setCell ⟨S, o + 1, none⟩ (.int .u32 0)).frozen? ⟨S, o + 2, none⟩ = false ∧
      (((w.setCell ⟨S, o, none⟩ (.int .u32 0)).setCell ⟨S, o + 1, none⟩ (.int .u32 0)).setCell ⟨S, o + 2, none⟩ (.int .u32 t)).cell? ⟨S, o + 3, none⟩ = some u3 ∧ (((w.setCell ⟨S, o, none⟩ (.int .u32 0)).setCell ⟨S, o + 1, none⟩ (.int .u32 0)).setCell ⟨S, o + 2, none⟩ (.int .u32 t)).frozen? ⟨S, o + 3, none⟩ = false)) ∧
    Blk ((((w.setCell ⟨S, o, none⟩ (.int .u32 0)).setCell ⟨S, o + 1, none⟩ (.int .u32 0)).setCell ⟨S, o + 2, none⟩ (.int .u32 t)).setCell ⟨S, o + 3, none⟩ (.int .u32 1)) S 45 ((((cs.setIfInBounds o (.int .u32 0)).setIfInBounds (o + 1) (.int .u32 0)).setIfInBounds (o + 2) (.int .u32 t)).setIfInBounds (o + 3) (.int .u32 1)) := by
  obtain ⟨u0, q0⟩ := h.has (i := o) (by omega)
  have h1 := h.set o (.int .u32 0)
  obtain ⟨u1, q1⟩ := h1.has (i := o + 1) (by simp; omega)
  have h2 := h1.set (o + 1) (.int .u32 0)
  obtain ⟨u2, q2⟩ := h2.has (i := o + 2) (by simp; omega)
  have h3 := h2.set (o + 2) (.int .u32 t)
  obtain ⟨u3, q3⟩ := h3.has (i := o + 3) (by simp; omega)
  exact ⟨⟨u0, u1, u2, u3, q0, h.free _, q1, h1.free _, q2, h2.free _, q3, h3.free _⟩, h3.set _ _⟩
theorem Acs.put {acs : Array Value} {ps : List Int} {k : Nat} (h : Acs acs ps k) (hs : k * 4 + 4 ≤ acs.size) : Acs ((((acs.setIfInBounds (k * 4) (.int .u32 0)).setIfInBounds (k * 4 + 1) (.int .u32 0)).setIfInBounds (k * 4 + 2) (.int .u32 (nth ps k))).setIfInBounds (k * 4 + 3) (.int .u32 1)) ps (k + 1) := fun i hi => by
  have z0 : k * 4 < acs.size := by omega
  have z1 : k * 4 + 1 < acs.size := by omega
  have z2 : k * 4 + 2 < acs.size := by omega
  have z3 : k * 4 + 3 < acs.size := by omega
  by_cases e : i = k
  · subst e
    refine ⟨?_, ?_, ?_, ?_⟩ <;> simp [Array.getElem?_setIfInBounds, z0, z1, z2, z3]
  · have hp := h i (by omega)
    refine ⟨?_, ?_, ?_, ?_⟩
    · rw [Array.getElem?_setIfInBounds_ne (by omega), Array.getElem?_setIfInBounds_ne (by omega), Array.getElem?_setIfInBounds_ne (by omega), Array.getElem?_setIfInBounds_ne (by omega)]; exact hp.1
    · rw [Array.getElem?_setIfInBounds_ne (by omega), Array.getElem?_setIfInBounds_ne (by omega), Array.getElem?_setIfInBounds_ne (by omega), Array.getElem?_setIfInBounds_ne (by omega)]; exact hp.2.1
    · rw [Array.getElem?_setIfInBounds_ne (by omega), Array.getElem?_setIfInBounds_ne (by omega), Array.getElem?_setIfInBounds_ne (by omega), Array.getElem?_setIfInBounds_ne (by omega)]; exact hp.2.2.1
    · rw [Array.getElem?_setIfInBounds_ne (by omega), Array.getElem?_setIfInBounds_ne (by omega), Array.getElem?_setIfInBounds_ne (by omega), Array.getElem?_setIfInBounds_ne (by omega)]; exact hp.2.2.2
/-- is t among the first i references? -/
def reg (ps : List Int) (t : Nat) (i : Nat) : Bool := (List.range i).any (fun j => nth ps j == (t : Int))
theorem reg_succ (ps : List Int) (t i : Nat) : reg ps t (i + 1) = (reg ps t i || (nth ps i == (t : Int))) := by
  unfold reg
  rw [List.range_succ, List.any_append]
  simp
theorem reg_iff {ps : List Int} {t i : Nat} : reg ps t i = true ↔ ∃ j, j < i ∧ nth ps j = (t : Int) := by
  simp [reg, List.any_eq_true]
def RetTrue (e : Ending) : Prop := e = .returned (.bool true)
set_option maxHeartbeats 8000000 in
set_option maxRecDepth 100000 in
theorem law_any (a0 a1 a2 a3 a4 : Option Addr) (l0 l1 l2 l3 l4 p0 p1 p2 p3 p4 : Nat) (c0 c1 c2 c3 q : Int) (ts : List ByteArray) (ks ls ns ps : List Int) (h0 : ts.length = l0) (h1 : ks.length = l1) (h2 : ls.length = l2) (h3 : ns.length = l3) (h4 : ps.length = l4) (hmx : l0 ≤ maxLen)
    (k8 : B8 ks) (l32 : B32 ls) (s32 : B32 ns) (p32 : B32 ps) (hc0 : 0 ≤ c0) (hc1 : 0 ≤ c1) (hc2 : 0 ≤ c2) (hc3 : 0 ≤ c3) (hq0 : 0 ≤ q) (w : World) (hin : Ar5 w a0 a1 a2 a3 a4 ts ks ls ns ps) (hv : Iv w) :
    Calls Tryd.prog 3 #[.slice a0 l0 p0, .slice a1 l1 p1, .slice a2 l2 p2, .slice a3 l3 p3, .slice a4 l4 p4, .int .u32 c0, .int .u32 c1, .int .u32 c2, .int .u32 c3, .int .u32 q] w fun e w' => RetTrue e ∧ Below w.heap.size w w' := by
  obtain ⟨d0, rfl⟩ : ∃ d0 : Nat, c0 = (d0 : Int) := ⟨c0.toNat, by omega⟩
  obtain ⟨d1, rfl⟩ : ∃ d1 : Nat, c1 = (d1 : Int) := ⟨c1.toNat, by omega⟩
  obtain ⟨d2, rfl⟩ : ∃ d2 : Nat, c2 = (d2 : Int) := ⟨c2.toNat, by omega⟩
  obtain ⟨d3, rfl⟩ : ∃ d3 : Nat, c3 = (d3 : Int) := ⟨c3.toNat, by omega⟩
  obtain ⟨q, rfl⟩ : ∃ q' : Nat, q = (q' : Int) := ⟨q.toNat, by omega⟩
  clear hc0 hc1 hc2 hc3 hq0
  have HI := Lib.hid (And.intro hin (And.intro hv (And.intro k8 (And.intro l32 (And.intro s32 p32)))))
  have HZB := Lib.hid (zb_any a0 a1 a2 a3 a4 l0 l1 l2 l3 l4 p0 p1 p2 p3 p4 (d0 : Int) (d1 : Int) (d2 : Int) (d3 : Int) (q : Int) ts h0 hmx w hin.i0)
  have HTP := Lib.hid (top_any a0 a1 a2 a3 a4 l0 l1 l2 l3 l4 p0 p1 p2 p3 p4 (d0 : Int) (d1 : Int) (d2 : Int) (d3 : Int) (q : Int) ts ks ls ns ps h0 h1 h3 h4 k8 s32 p32 w hin.i0 hin.i1 hin.i3 hin.i4)
  clear hin hv k8 l32 s32 p32
  go_enter Tryd.func3, Tryd.ntmps3
  go_upto_if 43 with (go_at_call 4; refine HZB.out.mono ?_; rintro e w2 ⟨⟨bb, rfl⟩, rfl⟩)
  cases bb
  · go_wp2_with fail
    go_ret
    exact ⟨rfl, Below.refl _ _⟩
  go_upto_if 55 with (go_at_call 5; refine HTP.out.mono ?_; rintro e w3 ⟨⟨d, rfl⟩, hcs⟩; have HCS := Lib.hid hcs; clear hcs; obtain ⟨bb, rfl⟩ : ∃ bb, e = .returned (.bool bb) := by (rcases HCS.out with h | h; exact ⟨_, h⟩; exact ⟨_, h.1⟩))
  have hbd : Below w2.heap.size w2 (w2.drewN d) := (Below.refl _ _).grown (gb_drewN _ _) (Nat.le_refl _) (fun k hk => by cases hk)
  cases bb
  · go_wp2_with fail
    go_ret
    exact ⟨rfl, hbd⟩
  have HF : Hid (FitT l0 l1 l2 l3 l4 ks ns ps (d0 : Int) (d1 : Int) (d2 : Int) (d3 : Int) (q : Int)) := by
    rcases HCS.out with h | h
    · injection h with h; injection h with h; cases h
    · exact Lib.hid h.2
  have e0 : l0 = l1 := HF.out.fit.n0
  have e2 : l2 = l1 := HF.out.fit.n2
  have e3 : l3 = l1 := HF.out.fit.n3
  subst e0 e2 e3
  have hle := HF.out.fit.le
  have hl4 := HF.out.le4
  obtain ⟨w3, hw3⟩ : ∃ w3, w2.drewN d = w3 := ⟨_, rfl⟩
  have H3 : Hid (Ar5 w3 a0 a1 a2 a3 a4 ts ks ls ns ps ∧ Iv w3 ∧ Below w2.heap.size w2 w3) := Lib.hid (by rw [← hw3]; exact ⟨HI.out.1.kept hbd, HI.out.2.1.below hbd, hbd⟩)
  rw [hw3]
  clear hw3 hbd HZB HTP HCS
  have HCS := Lib.hid (cs' a0 l3 p0 ts w3 h0 H3.out.1.i0 hle)
  go_upto_region 6 with (go_at_call 6; refine HCS.out.mono ?_; rintro e w4 ⟨b0, q0, rfl, hs, hb⟩; have HX := Lib.hid (And.intro hs hb); clear hs hb)
  have H4 : Hid (Ok w2 w4 b0 a1 a2 a3 a4 ts ks ls ns ps) := Lib.hid (by
    have := Ok.kept (w0 := w2) H3.out HX.out.2
    exact ⟨⟨HX.out.1, this.1.i1, this.1.i2, this.1.i3, this.1.i4⟩, this.2⟩)
  clear HCS HX H3
  have HCS := Lib.hid (c8' a1 l3 p1 ks w4 h1 H4.out.1.i1 hle)
  go_upto_region 7 with (go_at_call 7; refine HCS.out.mono ?_; rintro e w5 ⟨b1, q1, rfl, hs, hb⟩; have HX := Lib.hid (And.intro hs hb); clear hs hb)
  have H5 : Hid (Ok w2 w5 b0 b1 a2 a3 a4 ts ks ls ns ps) := Lib.hid (by
    have := Ok.kept H4.out HX.out.2
    exact ⟨⟨this.1.i0, HX.out.1, this.1.i2, this.1.i3, this.1.i4⟩, this.2⟩)
  clear HCS HX H4
  have HCS := Lib.hid (cu' a2 l3 p2 ls w5 h2 H5.out.1.i2 hle)
  go_upto_region 8 with (go_at_call 8; refine HCS.out.mono ?_; rintro e w6 ⟨b2, q2, rfl, hs, hb⟩; have HX := Lib.hid (And.intro hs hb); clear hs hb)
  have H6 : Hid (Ok w2 w6 b0 b1 b2 a3 a4 ts ks ls ns ps) := Lib.hid (by
    have := Ok.kept H5.out HX.out.2
    exact ⟨⟨this.1.i0, this.1.i1, HX.out.1, this.1.i3, this.1.i4⟩, this.2⟩)
  clear HCS HX H5
  have HCS := Lib.hid (cu' a3 l3 p3 ns w6 h3 H6.out.1.i3 hle)
  go_upto_region 9 with (go_at_call 8; refine HCS.out.mono ?_; rintro e w7 ⟨b3, q3, rfl, hs, hb⟩; have HX := Lib.hid (And.intro hs hb); clear hs hb)
  have H7 : Hid (Ok w2 w7 b0 b1 b2 b3 a4 ts ks ls ns ps) := Lib.hid (by
    have := Ok.kept H6.out HX.out.2
    exact ⟨⟨this.1.i0, this.1.i1, this.1.i2, HX.out.1, this.1.i4⟩, this.2⟩)
  clear HCS HX H6
  have HCS := Lib.hid (cu' a4 l4 p4 ps w7 h4 H7.out.1.i4 hl4)
  go_upto_region 10 with (go_at_call 8; refine HCS.out.mono ?_; rintro e w8 ⟨b4, q4, rfl, hs, hb⟩; have HX := Lib.hid (And.intro hs hb); clear hs hb)
  have H8 : Hid (Ok w2 w8 b0 b1 b2 b3 b4 ts ks ls ns ps) := Lib.hid (by
    have := Ok.kept H7.out HX.out.2
    exact ⟨⟨this.1.i0, this.1.i1, this.1.i2, this.1.i3, HX.out.1⟩, this.2⟩)
  clear HCS HX H7
  have HBD := Lib.hid (build_any b0 b1 b2 b3 l3 q0 q1 q2 q3 ts ks ls ns h0 h1 h2 h3 HI.out.2.2.1 HI.out.2.2.2.1 HI.out.2.2.2.2.1 hle w8 H8.out.1.i0 H8.out.1.i1 H8.out.1.i2 H8.out.1.i3)
  go_upto_region 11 with (go_at_call 9; refine HBD.out.mono ?_; rintro e w9 ⟨S, T, rfl, hS, hST, hbt, hT, hb⟩; have H9 := Lib.hid (And.intro hS (And.intro hST (And.intro hbt (And.intro hT hb)))); clear hS hST hbt hT hb)
  obtain ⟨Y, hY⟩ : ∃ Y, w9.heap.size = Y := ⟨_, rfl⟩
  have hb9 := Blk.new w9 32 #[.slice (some ⟨T, 0, none⟩) 1 1]
  have hg9 : w9.grownBy (w9.alloc (.cells #[.slice (some ⟨T, 0, none⟩) 1 1] 32)) none := gb_alloc (gb_refl _ _) _
  obtain ⟨wa, hwa⟩ : ∃ wa, w9.alloc (.cells #[.slice (some ⟨T, 0, none⟩) 1 1] 32) = wa := ⟨_, rfl⟩
  rw [hwa] at hb9 hg9 ⊢
  rw [hY] at hb9 ⊢
  clear hwa hY
  have HA : Hid (Below w8.heap.size w8 wa ∧ Bt wa S l3 l3 ts ks ls ns ∧ Blk wa T 53 #[.slice (some ⟨S, 0, none⟩) l3 l3] ∧ Blk wa Y 32 #[.slice (some ⟨T, 0, none⟩) 1 1] ∧ w8.heap.size ≤ S ∧ S < T) := Lib.hid (by
    have hk := H9.out.2.2.2.2.grown hg9 H9.out.2.2.2.2.size (fun k hk => by cases hk)
    obtain ⟨cs, r1, r2, r3, r4⟩ := H9.out.2.2.1.out
    exact ⟨hk, ⟨cs, r1.gb hg9 (by simp), r2, r3, r4⟩, H9.out.2.2.2.1.gb hg9 (by simp), hb9, H9.out.1, H9.out.2.1⟩)
  clear HBD H9 hb9 hg9
  have hy0 : wa.drew.cell? ⟨Y, 0, none⟩ = some (.slice (some ⟨T, 0, none⟩) 1 1) := HA.out.2.2.2.1.cell 0
  have HSC := Lib.hid (fun (w : World) => sc_any (d0 : Int) (d1 : Int) (d2 : Int) (d3 : Int) w)
  have hcb : d0 ≤ 65536 ∧ d1 ≤ 65536 ∧ d2 ≤ 65536 ∧ d3 ≤ 65536 := by have := HF.out.fit.c; omega
  have HNW := Lib.hid (fun (w : World) => new_any T d0 d1 d2 d3 hcb.1 hcb.2.1 hcb.2.2.1 hcb.2.2.2 w)
  have HCB := Lib.hid hcb
  clear hcb
  go_region_held3 (fun w' => w'.cell? ⟨Y, 0, none⟩ = some (.slice (some ⟨T, 0, none⟩) 1 1)) (first | (go_keep; done) | exact HY3.out | exact HY2.out)
    (first | (go_at_call 11; refine (HSC.out _).mono ?_; rintro e wb ⟨rfl, hgb⟩; have HB := Lib.hid (gb_und hgb); have HY2 := Lib.hid ((HA.out.2.2.2.1.gb (gb_und hgb) (by simp)).cell 0); clear hgb) | (go_at_call 10; refine (HNW.out _).mono ?_; rintro e wc ⟨R, bm, g0, g1, g2, g3, rfl, hnew, hbc⟩; have HC := Lib.hid (And.intro hnew hbc); have HY3 : Hid (wc.cell? ⟨Y, 0, none⟩ = some (.slice (some ⟨T, 0, none⟩) 1 1)) := Lib.hid ((hbc.cell (p := ⟨Y, 0, none⟩) (by have := HA.out.2.2.2.1.lt; have := HB.out.size; show Y < _; omega)).trans HY2.out); clear hnew hbc))
  have HD : Hid (Below w8.heap.size w8 wc ∧ New wc w8.heap.size R T bm g0 g1 g2 g3 d0 d1 d2 d3 ∧ (∃ kc, Sy wc T S 1 l3 kc (root ls l3) (fun i => l3 - i) ∧ Kc kc l3 ts ks ns) ∧ w8.heap.size ≤ S ∧ S < T) := Lib.hid (by
    have hba : Below wa.heap.size wa wc := ((Below.refl _ _).grown HB.out (Nat.le_refl _) (fun k hk => by cases hk)).trans (HC.out.2.mono HB.out.size)
    obtain ⟨kc, k1, k2⟩ := HA.out.2.1.sy HA.out.2.2.1
    have hw2a := HA.out.1.size
    have hab := HB.out.size
    have hle := HC.out.1.le
    have hnew := HC.out.1
    exact ⟨HA.out.1.trans (hba.mono HA.out.1.size), ⟨hnew.blk, hnew.r0, hnew.r1, hnew.r2, hnew.r3, hnew.map, hnew.ne, by omega⟩, ⟨kc, k1.kept hba, k2⟩, HA.out.2.2.2.2.1, HA.out.2.2.2.2.2⟩)
  clear HA HB HC hy0 HSC HNW
  go_upto_region 13 with (at_make; refine wpList_make_flat wc rfl _ _ 40 rfl 45 .u32 4 16 (by decide) Tryd.underlying40 ar_info l4 rfl rfl (by omega) (by unfold maxLen; omega) ?_; intro wd hbd hgd; have HE := Lib.hid (And.intro hbd hgd); clear hbd hgd)
  obtain ⟨Ar, hAr⟩ : ∃ Ar, wc.heap.size = Ar := ⟨_, rfl⟩
  have H0 : Hid (Below Ar wc wd ∧ ∃ acs, Blk wd Ar 45 acs ∧ acs.size = l4 * 4 ∧ Acs acs ps 0) := Lib.hid (by
    refine ⟨(Below.refl _ _).grown HE.out.2 (by omega) (fun k hk => by cases hk), _, by rw [← hAr]; exact HE.out.1, by simp [ints], fun k hk => by omega⟩)
  rw [hAr]
  have HAr := Lib.hid hAr
  clear hAr HE
  go_wp2_with fail
  go_loopg [24] l4 (fun gk a wx => ∃ i : Nat, a = .int .i64 (i : Int) ∧ i ≤ l4 ∧ l4 - i ≤ gk ∧ Hid (Below Ar wc wx ∧ ∃ acs, Blk wx Ar 45 acs ∧ acs.size = l4 * 4 ∧ Acs acs ps i))
  case atStart => exact ⟨0, rfl, by omega, by omega, H0⟩
  case round =>
    obtain ⟨i, rfl, hi, hk, HL⟩ := hrel
    obtain ⟨wz, rfl⟩ : ∃ wz : World, wz = wr := ⟨_, rfl⟩
    rcases (show l4 = i ∨ i < l4 by omega) with he | hlt
    · obtain rfl := he
      go_upto_region 17 with fail
      obtain ⟨kc, hsy, hkc⟩ := HD.out.2.2.1
      obtain ⟨acs, z1, z2, z3⟩ := HL.out.2
      have hzc : Below wc.heap.size wc wz := by rw [HAr.out]; exact HL.out.1
      have hnew := HD.out.2.1.kept hzc
      have hb8 : Below w8.heap.size w8 wz := HD.out.1.trans (hzc.mono HD.out.1.size)
      have hok := H8.out.kept hb8
      have hast : Ast wz w8.heap.size Ar R T S bm l3 acs kc (root ls l3) (fun i => l3 - i) ps ks (.slice (some ⟨g2, 0, none⟩) d2 d2) (.slice (some ⟨g3, 0, none⟩) d3 d3) g0 d0 d0 g1 d1 d1 (.map []) 0 :=
        ⟨hnew.blk, SlAt.made hnew.r0 hnew.le.2.2.1 HCB.out.1, SlAt.made hnew.r1 hnew.le.2.2.2.1 HCB.out.2.1, hnew.ne.1, Mp.fresh hnew.map, Know.nil _ _ _, hsy.kept hzc, z1, ⟨hnew.le.1, hnew.le.2.1⟩⟩
      have HAL := Lib.hid (alloc_any w8.heap.size Ar R T S bm l3 l4 l4 acs kc (root ls l3) (fun i => l3 - i) ts ps ks ns (.slice (some ⟨g2, 0, none⟩) d2 d2) (.slice (some ⟨g3, 0, none⟩) d3 d3) g0 d0 d0 g1 d1 d1 wz hb8.size hle hl4 h1 hkc z3 HF.out.tops (fun i hi => (HI.out.2.2.2.2.2 i (by omega)).1) ⟨HCB.out.1, HCB.out.2.1⟩ hast)
      have HM := Lib.hid (And.intro hb8 hkc)
      clear hsy hkc z1 z2 z3 hzc hnew hb8 hok hast
      go_upto_region 18 with (go_at_call 13; refine HAL.out.mono ?_; rintro e we ⟨rfl, hbe, ga, pa, na, gb, pb, nb', D, hast, hna, hnb, hla, hlb⟩; have HG := Lib.hid (And.intro hbe (And.intro hast (And.intro hna (And.intro hnb (And.intro hla hlb))))); clear hbe hast hna hnb hla hlb)
      have HSt : Hid (∀ wx : World, Below w8.heap.size w8 wx → Ok w2 wx b0 b1 b2 b3 b4 ts ks ls ns ps) := Lib.hid (fun wx hb => H8.out.kept hb)
      have HNM : Hid (∀ (x : Nat) (wx : World), x < l3 → Below w8.heap.size w8 wx → Ast wx w8.heap.size Ar R T S bm l3 acs kc (root ls l3) (fun i => l3 - i) ps ks (.slice (some ⟨g2, 0, none⟩) d2 d2) (.slice (some ⟨g3, 0, none⟩) d3 d3) ga pa na gb pb nb' D l4 →
          Calls Tryd.prog 14 #[.pointer (some ⟨R, 0, none⟩), .agg #[.int .u32 0, .int .u32 (x : Int)]] wx fun e w' => e = .returned (.string (want ts ks ns D (root ls l3 x))) ∧ Below w8.heap.size w8 w' ∧ Ast w' w8.heap.size Ar R T S bm l3 acs kc (root ls l3) (fun i => l3 - i) ps ks (.slice (some ⟨g2, 0, none⟩) d2 d2) (.slice (some ⟨g3, 0, none⟩) d3 d3) ga pa na gb pb nb' D l4) := Lib.hid (by
        intro x wx hx hb ha
        have hok := H8.out.kept hb
        have h0 : 0 < w8.heap.size := World.block_lt_of_cell? w8 _ H8.out.2.1.1
        have hST := HD.out.2.2.2
        refine (nm_any w8.heap.size Ar R T S bm l3 l4 acs kc (root ls l3) (fun i => l3 - i) ts ps ks ns _ _ ga pa na gb pb nb' D (d0 : Int) (d1 : Int) hle ⟨h0, hST.1, by omega⟩ HM.out.2 (fun i hi => HI.out.2.2.2.2.1 i (by omega)) (fun i hi => HI.out.2.2.1 i (by omega)) HF.out.fit.nest (by have := HG.out.2.2.1; omega) (by have := HG.out.2.2.2.1; omega) (by have := HG.out.2.2.2.2; omega)
          (fun j hj => by have := root_facts (ls := ls) (n := l3) (l3 - j) j hj (Nat.le_refl _); exact ⟨this.1, by show l3 - root ls l3 j ≤ l3 - j; omega, this.2.2⟩) x hx wx hok.2.1 ha).mono ?_
        rintro e w' ⟨q1, q2, q3⟩
        exact ⟨q1, hb.grown q3 hb.size (fun k hk => by have := Option.some.inj hk; omega), q2⟩)
      have HE : Hid (Below w8.heap.size w8 we ∧ Ast we w8.heap.size Ar R T S bm l3 acs kc (root ls l3) (fun i => l3 - i) ps ks (.slice (some ⟨g2, 0, none⟩) d2 d2) (.slice (some ⟨g3, 0, none⟩) d3 d3) ga pa na gb pb nb' D l4) := Lib.hid ⟨⟨HG.out.1.os.trans HM.out.1.os, HG.out.1.tape.trans HM.out.1.tape, HG.out.1.output.trans HM.out.1.output, Nat.le_trans HM.out.1.size HG.out.1.size, fun k hk => (HG.out.1.block k hk).trans (HM.out.1.block k hk)⟩, HG.out.2.1⟩
      have hq3 : q < l3 := by have := HF.out.fit.q; omega
      obtain ⟨t, ht⟩ : ∃ t, root ls l3 q = t := ⟨_, rfl⟩
      have hrf := root_facts (ls := ls) (n := l3) (l3 - q) q hq3 (Nat.le_refl _)
      rw [ht] at hrf
      obtain ⟨nm, hnm⟩ : ∃ nm, want ts ks ns D t = nm := ⟨_, rfl⟩
      have HT := Lib.hid (And.intro ht (And.intro hrf hnm))
      have htl : t < l3 := hrf.1
      have HR := Lib.hid (fun (z : Int) (w : World) => ref_any z w)
      have HQ1 : Hid (∀ wx : World, Below w8.heap.size w8 wx → Ast wx w8.heap.size Ar R T S bm l3 acs kc (root ls l3) (fun i => l3 - i) ps ks (.slice (some ⟨g2, 0, none⟩) d2 d2) (.slice (some ⟨g3, 0, none⟩) d3 d3) ga pa na gb pb nb' D l4 →
          Calls Tryd.prog 14 #[.pointer (some ⟨R, 0, none⟩), .agg #[.int .u32 0, .int .u32 (q : Int)]] wx fun e w' => e = .returned (.string nm) ∧ Below w8.heap.size w8 w' ∧ Ast w' w8.heap.size Ar R T S bm l3 acs kc (root ls l3) (fun i => l3 - i) ps ks (.slice (some ⟨g2, 0, none⟩) d2 d2) (.slice (some ⟨g3, 0, none⟩) d3 d3) ga pa na gb pb nb' D l4) := Lib.hid (fun wx hb ha => by
        have := HNM.out q wx hq3 hb ha
        rw [ht, hnm] at this
        exact this)
      have HQ2 : Hid (∀ wx : World, Below w8.heap.size w8 wx → Ast wx w8.heap.size Ar R T S bm l3 acs kc (root ls l3) (fun i => l3 - i) ps ks (.slice (some ⟨g2, 0, none⟩) d2 d2) (.slice (some ⟨g3, 0, none⟩) d3 d3) ga pa na gb pb nb' D l4 →
          Calls Tryd.prog 14 #[.pointer (some ⟨R, 0, none⟩), .agg #[.int .u32 0, .int .u32 (t : Int)]] wx fun e w' => e = .returned (.string nm) ∧ Below w8.heap.size w8 w' ∧ Ast w' w8.heap.size Ar R T S bm l3 acs kc (root ls l3) (fun i => l3 - i) ps ks (.slice (some ⟨g2, 0, none⟩) d2 d2) (.slice (some ⟨g3, 0, none⟩) d3 d3) ga pa na gb pb nb' D l4) := Lib.hid (fun wx hb ha => by
        have := HNM.out t wx htl hb ha
        rw [hrf.2.2, hnm] at this
        exact this)
      clear ht hrf hnm HNM
      go_upto_region 19 with (first | (go_at_call 12; refine (HR.out _ _).mono ?_; rintro e wf ⟨rfl, hgf⟩; have HE1 := Lib.hid (And.intro (HE.out.1.grown hgf HE.out.1.size (fun k hk => by cases hk)) (HE.out.2.grow hgf)); clear hgf) | (go_at_call 14; refine (HQ1.out _ HE1.out.1 HE1.out.2).mono ?_; rintro e wg ⟨rfl, hb, ha⟩; have HE2 := Lib.hid (And.intro hb ha); clear hb ha))
      clear HE HE1
      go_upto_region 20 with (first | (go_at_call 12; refine (HR.out _ _).mono ?_; rintro e wf ⟨rfl, hgf⟩; have HE1 := Lib.hid (And.intro (HE2.out.1.grown hgf HE2.out.1.size (fun k hk => by cases hk)) (HE2.out.2.grow hgf)); clear hgf) | (go_at_call 14; refine (HQ1.out _ HE1.out.1 HE1.out.2).mono ?_; rintro e wh ⟨rfl, hb, ha⟩; have HE3 := Lib.hid (And.intro hb ha); clear hb ha))
      clear HE1 HE2
      have HRT := root_any b2 l3 q2 ls h2 hle HI.out.2.2.2.1 q hq3 wh (HSt.out wh HE3.out.1).1.i2
      rw [HT.out.1] at HRT
      have HRT := Lib.hid HRT
      go_upto_region 21 with (go_at_call 15; refine HRT.out.mono ?_; rintro e wi ⟨rfl, rfl⟩)
      go_upto_region 22 with (first | (go_at_call 12; refine (HR.out _ _).mono ?_; rintro e wf ⟨rfl, hgf⟩; have HE1 := Lib.hid (And.intro (HE3.out.1.grown hgf HE3.out.1.size (fun k hk => by cases hk)) (HE3.out.2.grow hgf)); clear hgf) | (go_at_call 14; refine (HQ2.out _ HE1.out.1 HE1.out.2).mono ?_; rintro e wj ⟨rfl, hb, ha⟩; have HE4 := Lib.hid (And.intro hb ha); clear hb ha))
      clear HE1 HE3 HRT HQ1 HQ2
      go_wp2_with fail
      go_loopg [29, 30] l4 (fun gk a b wx => ∃ i : Nat, a = .bool (reg ps t i) ∧ b = .int .i64 (i : Int) ∧ i ≤ l4 ∧ l4 - i ≤ gk ∧ wx = wj)
      case atStart => exact ⟨0, rfl, rfl, by omega, by omega, rfl⟩
      case round =>
        obtain ⟨i, rfl, rfl, hi, hk, rfl⟩ := hrel
        rcases (show l4 = i ∨ i < l4 by omega) with he | hlt
        · obtain rfl := he
          have hA := (HSt.out wr HE4.out.1).1
          obtain ⟨x0, y0, rfl, hl0, v0⟩ := hA.i0.at (i := t) (by omega)
          obtain ⟨x1, y1, rfl, hl1, v1⟩ := hA.i1.at (i := t) (by omega)
          obtain ⟨x3, y3, rfl, hl3, v3⟩ := hA.i3.at (i := t) (by omega)
          have hk8 := HI.out.2.2.1 t (by omega)
          have hs32 := HI.out.2.2.2.2.1 t (by omega)
          obtain ⟨kk, hkk⟩ : ∃ kk, nth ks t = kk := ⟨_, rfl⟩
          obtain ⟨s, hss⟩ : ∃ s, nth ns t = s := ⟨_, rfl⟩
          obtain ⟨u, huu⟩ : ∃ u, tth ts t = u := ⟨_, rfl⟩
          obtain ⟨bb, hbb⟩ : ∃ bb, reg ps t l4 = bb := ⟨_, rfl⟩
          have hnm := HT.out.2.2
          unfold want at hnm
          rw [hkk, hss, huu] at hnm
          rw [hkk] at v1 hk8
          rw [hss] at v3 hs32
          rw [huu] at v0
          have hreg : (Maps.has D (kr t) = true ↔ bb = true) := by
            rw [← hbb]
            exact (HE4.out.2.kn.has t htl).trans reg_iff.symm
          have HP := Lib.hid (fun (w : World) => pin_any kk hk8.1 hk8.2 w)
          rw [hbb]
          have HH := Lib.hid (And.intro hnm hreg)
          have HBL := Lib.hid (HSt.out wr HE4.out.1).2.2
          clear hnm hreg hkk hss huu hbb hA
          have hcases : (kk % 3 = 0 ∧ nm = u) ∨ (kk % 3 ≠ 0 ∧ s ≠ 0 ∧ nm = ⟨#[]⟩) ∨ (kk % 3 ≠ 0 ∧ s = 0 ∧ bb = true ∧ nm = ⟨#[]⟩) ∨ (kk % 3 ≠ 0 ∧ s = 0 ∧ bb = false ∧ nm = u) := by
            have hn := HH.out.1
            have hr := HH.out.2
            by_cases k0 : kk % 3 = 0
            · rw [if_pos k0] at hn; exact .inl ⟨k0, hn.symm⟩
            · rw [if_neg k0] at hn
              by_cases s0 : s = 0
              · cases bb
                · rw [if_neg (by rintro (h | h); exact h s0; exact absurd (hr.1 h) (by simp))] at hn
                  exact .inr (.inr (.inr ⟨k0, s0, rfl, hn.symm⟩))
                · rw [if_pos (.inr (hr.2 rfl))] at hn
                  exact .inr (.inr (.inl ⟨k0, s0, rfl, hn.symm⟩))
              · rw [if_pos (.inl s0)] at hn
                exact .inr (.inl ⟨k0, s0, hn.symm⟩)
          clear HH
          rcases hcases with ⟨k0, rfl⟩ | ⟨k0, s0, rfl⟩ | ⟨k0, rfl, rfl, rfl⟩ | ⟨k0, rfl, rfl, rfl⟩
          · have hp : pin kk = true := by simp [pin, k0]
            rw [hp] at HP
            clear k0
            go_wp2_with (go_at_call 16; refine (HP.out _).mono ?_; rintro e wk ⟨rfl, rfl⟩)
            all_goals go_ret
            all_goals exact ⟨rfl, HBL.out⟩
          · have hp : pin kk = false := by simp [pin, k0]
            rw [hp] at HP
            have hs : (s == 0) = false := by simp [s0]
            have hs' : (s != 0) = true := by simp [s0]
            clear k0
            go_wp2_with (go_at_call 16; refine (HP.out _).mono ?_; rintro e wk ⟨rfl, rfl⟩)
            all_goals go_ret
            all_goals exact ⟨rfl, HBL.out⟩
          · have hp : pin kk = false := by simp [pin, k0]
            rw [hp] at HP
            clear k0
            go_wp2_with (go_at_call 16; refine (HP.out _).mono ?_; rintro e wk ⟨rfl, rfl⟩)
            all_goals go_ret
            all_goals exact ⟨rfl, HBL.out⟩
          · have hp : pin kk = false := by simp [pin, k0]
            rw [hp] at HP
            clear k0
            go_wp2_with (go_at_call 16; refine (HP.out _).mono ?_; rintro e wk ⟨rfl, rfl⟩)
            all_goals go_ret
            all_goals exact ⟨rfl, HBL.out⟩
        · obtain ⟨x4, y4, rfl, hl4', v4⟩ := (HSt.out wr HE4.out.1).1.i4.at (i := i) (by omega)
          obtain ⟨z, hz⟩ : ∃ z, nth ps i = z := ⟨_, rfl⟩
          rw [hz] at v4
          have hrs := reg_succ ps t i
          rw [hz] at hrs
          by_cases ez : z = (t : Int)
          · have d : (z == (t : Int)) = true := by simp [ez]
            rw [d, Bool.or_true] at hrs
            have HRS := Lib.hid hrs
            clear hrs ez
            go_wp2_with fail
            go_roundg (gk - 1)
            case measure => omega
            case rel => exact ⟨i + 1, by rw [HRS.out], by go_num, by omega, by omega, rfl⟩
          · have d : (z == (t : Int)) = false := by simp [ez]
            rw [d, Bool.or_false] at hrs
            have HRS := Lib.hid hrs
            clear hrs ez
            go_wp2_with fail
            go_roundg (gk - 1)
            case measure => omega
            case rel => exact ⟨i + 1, by rw [HRS.out], by go_num, by omega, by omega, rfl⟩
    · obtain ⟨bb, off, rfl, hbl, hc⟩ := (H8.out.kept HD.out.1).1.i4.at (i := i) (by omega)
      obtain ⟨z, hz⟩ : ∃ z, nth ps i = z := ⟨_, rfl⟩
      rw [hz] at hc
      have HZ := Lib.hid hz
      have hc' : wz.cell? ⟨bb, off + i, none⟩ = some (.int .u32 z) := (HL.out.1.cell (p := ⟨bb, off + i, none⟩) (by rw [← HAr.out]; exact hbl)).trans hc
      obtain ⟨acs, z1, z2, z3⟩ := HL.out.2
      have HQ := Lib.hid (And.intro z1 (And.intro z2 z3))
      clear hz hc z1 z2 z3
      have HRF := Lib.hid (fun (w : World) => ref_any z w)
      go_wp2_with (go_at_call 12; refine (HRF.out _).mono ?_; rintro e w5 ⟨rfl, hg5⟩; have hb5 := HQ.out.1.gb hg5 (by simp); obtain ⟨⟨u0, u1, u2, u3, x0, y0, x1, y1, x2, y2, x3, y3⟩, hbf⟩ := put4 hb5 (i * 4) (by have := HQ.out.2.1; omega) z; have hl5 := hb5.lt; have H5 := Lib.hid (And.intro hg5 hbf); clear hg5 hb5 hbf)
      go_roundg (gk - 1)
      case measure => omega
      case rel =>
        have ha := HQ.out.2.2.put (by have := HQ.out.2.1; omega)
        rw [HZ.out] at ha
        have hs := HL.out.1.size
        have hs2 := H5.out.1.size
        exact ⟨i + 1, by go_num, by omega, by omega, Lib.hid ⟨((((HL.out.1.grown H5.out.1 (by have := HAr.out; omega) (fun k hk => by cases hk)).setCell (p := ⟨Ar, i * 4, none⟩) (Nat.le_refl _) _).setCell (p := ⟨Ar, i * 4 + 1, none⟩) (Nat.le_refl _) _).setCell (p := ⟨Ar, i * 4 + 2, none⟩) (Nat.le_refl _) _).setCell (p := ⟨Ar, i * 4 + 3, none⟩) (Nat.le_refl _) _, _, H5.out.2, by have := HQ.out.2.1; simp; omega, ha⟩⟩
end Go.Proofs.YtggepefjodgcgaaDoor
