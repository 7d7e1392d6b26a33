/-
  The law's walk. No statement of the seat is proved here.
-/
import Derived.Test.YtnfjfjcdehohhaaDoorBo
import Derived.Deep.DeepCutAuto
import Derived.Deep.CutBlock
import Derived.BigQuiet
import Derived.Deep.QuietTactic
namespace Go.Proofs.YtnfjfjcdehohhaaDoor
open Go.RowKit
set_option linter.unusedVariables false
set_option linter.unusedSimpArgs false

theorem mm_hint (n : Nat) (w : World) : (Instr.makeMap 37 (some (.int .i64 (n : Int)))).run Tryd.prog w = .ok (.map (some w.heap.size)) (w.alloc (.map #[] 0)) := by
  have h := run_underlying Tryd.underlying37 w
  simp [Instr.makeMap, h, asInt, asIntOf, Result.andThen, go_sem]
/-- the map and the two rows, filled from the first i uses -/
structure S1 (w0 w : World) (M P Q n : Nat) (us cs : List Int) (i : Nat) : Prop where
  mu : ∃ D, Mu w M i D ∧ Uses D us cs i n
  pr : Rw w P 4 n (fun t => .bool (inT us i t))
  la : Rw w Q 24 n (fun t => .int .u32 (lastT us cs i t))
  bl : Below w0.heap.size w0 w
  le : w0.heap.size ≤ M ∧ w0.heap.size ≤ P ∧ w0.heap.size ≤ Q
theorem Mu.nb {w : World} {M i g : Nat} {D : DataW Unit} {t : TypeId} {cs : Array Value} (h : Mu w M i D) (h' : Blk w g t cs) : g ≠ M := by
  rintro rfl
  obtain ⟨es, clock, hb, _⟩ := h
  unfold Blk at h'
  rw [h'] at hb
  cases hb
theorem S1.step {w0 w w5 w6 : World} {M P Q n i t : Nat} {us cs : List Int} {D : DataW Unit} (hn : n ≤ 65536) (ht : t < n) (hu : nth us i = (t : Int)) (h : S1 w0 w M P Q n us cs i) (hU : Uses D us cs i n) (hg5 : w.grownBy w5 none)
    (hm : Mu w6 M (i + 1) (D.put (kr t) (.lit (.int .u32 (nth cs i))))) (hg6 : w5.grownBy w6 (some M)) :
    S1 w0 ((w6.setCell ⟨P, t, none⟩ (.bool true)).setCell ⟨Q, t, none⟩ (.int .u32 (nth cs i))) M P Q n us cs (i + 1) := by
  obtain ⟨D0, hmu, _⟩ := h.mu
  obtain ⟨c1, b1⟩ := h.pr.blk
  obtain ⟨c2, b2⟩ := h.la.blk
  have nR : ∀ {x y : Nat}, x ≠ y → some x ≠ some y := fun h e => h (Option.some.inj e)
  have hMP := hmu.nb b1
  have hMQ := hmu.nb b2
  have hPQ : P ≠ Q := blk_ne b1 b2 (by decide)
  have p6 := (h.pr.gb hg5 (by simp)).gb hg6 (nR hMP)
  have q6 := (h.la.gb hg5 (by simp)).gb hg6 (nR hMQ)
  have s1 : w6.grownBy (w6.setCell ⟨P, t, none⟩ (.bool true)) (some P) := gb_set (gb_refl _ _) _ _ _
  have s2 : (w6.setCell ⟨P, t, none⟩ (.bool true)).grownBy ((w6.setCell ⟨P, t, none⟩ (.bool true)).setCell ⟨Q, t, none⟩ (.int .u32 (nth cs i))) (some Q) := gb_set (gb_refl _ _) _ _ _
  have hb5 : Below w0.heap.size w0 w5 := h.bl.grown hg5 h.bl.size (fun k hk => by cases hk)
  have hb6 : Below w0.heap.size w0 w6 := hb5.grown hg6 hb5.size (fun k hk => by cases hk; exact h.le.1)
  refine ⟨⟨_, (hm.kept s1 (nR (Ne.symm hMP))).kept s2 (nR (Ne.symm hMQ)), hU.put hn ht hu⟩, ((p6.set t (.bool true)).gb s2 (nR hPQ)).congr (fun x hx => ?_), ((q6.gb s1 (nR (Ne.symm hPQ))).set t (.int .u32 (nth cs i))).congr (fun x hx => ?_),
    (hb6.setCell (p := ⟨P, t, none⟩) h.le.2.1 _).setCell (p := ⟨Q, t, none⟩) h.le.2.2 _, h.le⟩
  · by_cases e : x = t
    · subst e; simp [inT, hu]
    · have : ¬ nth us i = (x : Int) := by omega
      simp [inT, this, e]
  · by_cases e : x = t
    · subst e; simp [lastT, hu]
    · have : ¬ nth us i = (x : Int) := by omega
      simp [lastT, this, e]
theorem len_any (a : Option Addr) (n cap : Nat) (w : World) : Calls Tryd.prog 14 #[.slice a n cap] w fun e w' => e = .returned (.int .i64 (n : Int)) ∧ w' = w := by
  go_enter Tryd.func14, Tryd.ntmps14
  go_wp2
  go_ret
  exact ⟨rfl, rfl⟩
theorem fl_at (st : Int) (la : Nat → Int) : ∀ (es : List Nat) (q : Nat), q < es.length → ∃ t, es[q]? = some t ∧ (fl st la es)[q * 4]? = some (.int .u32 st) ∧ (fl st la es)[q * 4 + 1]? = some (.int .u32 0) ∧ (fl st la es)[q * 4 + 2]? = some (.int .u32 (t : Int)) ∧ (fl st la es)[q * 4 + 3]? = some (.int .u32 (la t))
  | [], q, h => by simp at h
  | t :: es, 0, h => ⟨t, rfl, rfl, rfl, rfl, rfl⟩
  | t :: es, q + 1, h => by
    obtain ⟨u, h0, h1, h2, h3, h4⟩ := fl_at st la es q (by simpa using h)
    have e : fl st la (t :: es) = [.int .u32 st, .int .u32 0, .int .u32 (t : Int), .int .u32 (la t)] ++ fl st la es := by simp [fl]
    have r : ∀ j, (fl st la (t :: es))[(q + 1) * 4 + j]? = (fl st la es)[q * 4 + j]? := fun j => by
      rw [e, List.getElem?_append_right (by simp; omega)]
      congr 1
      simp; omega
    exact ⟨u, by simpa using h0, by rw [show (q + 1) * 4 = (q + 1) * 4 + 0 from rfl, r]; exact h1, by rw [r]; exact h2, by rw [r]; exact h3, by rw [r]; exact h4⟩
/-- the list as it lies -/
theorem own_at {w : World} {B : Nat} {v : Value} {k : Nat} {xs : List Value} (h : w.ownsRow B 51 4 v k xs) : ∃ (a : Option Addr) (cap : Nat), v = .slice a k cap ∧ (0 < k → ∃ g cur, a = some ⟨g, 0, none⟩ ∧ Blk w g 51 cur ∧ ∀ j, j < k * 4 → cur[j]? = xs[j]?) := by
  obtain ⟨hl, h | ⟨g, cap, cur, hv, _, hh, _, _, hcs, htk⟩⟩ := h
  · obtain ⟨e1, e2⟩ := h
    subst e1
    have hk : k = 0 := by
      rw [e2] at hl
      simp at hl
      omega
    subst hk
    exact ⟨none, 0, rfl, fun h => absurd h (by omega)⟩
  · exact ⟨_, cap, hv, fun _ => ⟨g, cur, rfl, hh, fun j hj => by rw [← htk, List.getElem?_take_of_lt hj, Array.getElem?_toList]⟩⟩
theorem Kp.rw {w w' : World} {L : Nat → Prop} (h : Kp w w' L) {P n : Nat} {e : TypeId} {g : Nat → Value} (hr : Rw w P e n g) (hn : ¬ L P) : Rw w' P e n g := by
  obtain ⟨cs, h1, h2, h3⟩ := hr.out
  exact ⟨cs, h.blk h1 hn, h2, h3⟩
theorem Rw.kept {w w' : World} {P n : Nat} {e : TypeId} {g : Nat → Value} (h : Rw w P e n g) (hb : Below w.heap.size w w') : Rw w' P e n g := by
  obtain ⟨cs, h1, h2, h3⟩ := h.out
  exact ⟨cs, h1.kept hb, h2, h3⟩
theorem St.notL0 {w : World} {B R T S A X n g0 g1 c0 c1 : Nat} {kc : Array Value} {v2 v3 vm : Value} {st : Int} {v : Value} {k : Nat} {xs : List Value} (h : St w B R T S A X n g0 g1 c0 c1 kc v2 v3 vm st v k xs)
    {b : Nat} {t : TypeId} {cs : Array Value} (hb : Blk w b t cs) (ht : t ≠ 65 ∧ t ≠ 87 ∧ t ≠ 46) : ¬ L0 S g0 g1 A b := by
  obtain ⟨ts, cs, q1, q2, q3, q4, q5, q6⟩ := h.sy.out
  rintro (e | e | e | e)
  · exact blk_ne hb q5 ht.1 e
  · exact (h.s0.ne hb ht.2.1) e.symm
  · exact (h.s1.ne hb ht.2.1) e.symm
  · exact blk_ne hb h.var ht.2.2 e
/-- behind the accumulation: what the check reads -/
structure Tl (w2 w : World) (b0 b1 b2 b3 : Option Addr) (ks ns us cs : List Int) (A P Q n m cap : Nat) (st : Int) (a : Option Addr) (es : List Nat) : Prop where
  ok : Ok w2 w b0 b1 b2 b3 ks ns us cs
  var : Blk w A 46 #[.slice a es.length cap]
  row : 0 < es.length → ∃ g cur, a = some ⟨g, 0, none⟩ ∧ Blk w g 51 cur ∧ ∀ j, j < es.length * 4 → cur[j]? = (fl st (lastT us cs m) es)[j]?
  pr : Rw w P 4 n (fun t => .bool (inT us m t))
  la : Rw w Q 24 n (fun t => .int .u32 (lastT us cs m t))
  es : Es es us ks ns m n (fun _ => false)
theorem Tl.kept {w2 w w' : World} {b0 b1 b2 b3 : Option Addr} {ks ns us cs : List Int} {A P Q n m cap : Nat} {st : Int} {a : Option Addr} {es : List Nat} (h : Tl w2 w b0 b1 b2 b3 ks ns us cs A P Q n m cap st a es) (hb : Below w.heap.size w w') : Tl w2 w' b0 b1 b2 b3 ks ns us cs A P Q n m cap st a es :=
  ⟨h.ok.kept hb, h.var.kept hb, fun h0 => by obtain ⟨g, cur, e, hc, hr⟩ := h.row h0; exact ⟨g, cur, e, hc.kept hb, hr⟩, h.pr.kept hb, h.la.kept hb, h.es⟩
theorem Tl.entry {w2 w : World} {b0 b1 b2 b3 : Option Addr} {ks ns us cs : List Int} {A P Q n m cap : Nat} {st : Int} {a : Option Addr} {es : List Nat} (h : Tl w2 w b0 b1 b2 b3 ks ns us cs A P Q n m cap st a es) {q : Nat} (hq : q < es.length) :
    ∃ g t, a = some ⟨g, 0, none⟩ ∧ es[q]? = some t ∧ t < n ∧ inT us m t = true ∧ lst ks ns t = true ∧ g < w.heap.size ∧ w.cell? ⟨g, q * 4, none⟩ = some (.int .u32 st) ∧ w.cell? ⟨g, q * 4 + 1, none⟩ = some (.int .u32 0) ∧ w.cell? ⟨g, q * 4 + 2, none⟩ = some (.int .u32 (t : Int)) ∧ w.cell? ⟨g, q * 4 + 3, none⟩ = some (.int .u32 (lastT us cs m t)) := by
  obtain ⟨g, cur, e, hc, hr⟩ := h.row (by omega)
  obtain ⟨t, h0, h1, h2, h3, h4⟩ := fl_at st (lastT us cs m) es q hq
  obtain ⟨m1, m2, m3, _⟩ := (h.es.mem t).1 (List.mem_of_getElem? h0)
  exact ⟨g, t, e, h0, m1, m2, m3, hc.lt, by rw [hc.cell, hr _ (by omega), h1], by rw [hc.cell, hr _ (by omega), h2], by rw [hc.cell, hr _ (by omega), h3], by rw [hc.cell, hr _ (by omega), h4]⟩
theorem nodup_take {es : List Nat} (h : es.Nodup) {q t : Nat} (ht : es[q]? = some t) : t ∉ es.take q := by
  intro hm
  obtain ⟨i, hi, e⟩ := List.mem_take_iff_getElem.1 hm
  obtain ⟨hq, e2⟩ := List.getElem?_eq_some_iff.1 ht
  have := (List.getElem_inj (h₀ := (by omega : i < es.length)) (h₁ := hq) h).1 (e.trans e2.symm)
  omega
theorem take_mem {es : List Nat} {q t x : Nat} (ht : es[q]? = some t) : x ∈ es.take (q + 1) ↔ x = t ∨ x ∈ es.take q := by
  rw [List.take_add_one, ht]
  simp [or_comm]
set_option maxHeartbeats 8000000 in
set_option maxRecDepth 100000 in
theorem law_any (a0 a1 a2 a3 : Option Addr) (l0 l1 l2 l3 p0 p1 p2 p3 : Nat) (st c0 c1 c2 c3 : Int) (ks ns us cs : List Int) (h0 : ks.length = l0) (h1 : ns.length = l1) (h2 : us.length = l2) (h3 : cs.length = l3)
    (k8 : B8 ks) (s32 : B32 ns) (u32 : B32 us) (t32 : B32 cs) (hc0 : 0 ≤ c0) (hc1 : 0 ≤ c1) (hc2 : 0 ≤ c2) (hc3 : 0 ≤ c3) (w : World) (hin : Ar4 w a0 a1 a2 a3 ks ns us cs) (hv : Iv w) :
    Calls Tryd.prog 3 #[.slice a0 l0 p0, .slice a1 l1 p1, .slice a2 l2 p2, .slice a3 l3 p3, .int .u32 st, .int .u32 c0, .int .u32 c1, .int .u32 c2, .int .u32 c3] w fun e w' => RetTrue e ∧ Below w.heap.size w w' := by
  obtain ⟨d0, rfl⟩ : ∃ d0 : Nat, c0 = (d0 : Int) := ⟨c0.toNat, by omega⟩
  obtain ⟨d1, rfl⟩ : ∃ d1 : Nat, c1 = (d1 : Int) := ⟨c1.toNat, by omega⟩
  obtain ⟨d2, rfl⟩ : ∃ d2 : Nat, c2 = (d2 : Int) := ⟨c2.toNat, by omega⟩
  obtain ⟨d3, rfl⟩ : ∃ d3 : Nat, c3 = (d3 : Int) := ⟨c3.toNat, by omega⟩
  clear hc0 hc1 hc2 hc3
  have HI := Lib.hid (And.intro hin (And.intro hv (And.intro k8 (And.intro s32 (And.intro u32 t32)))))
  have HZB := Lib.hid (zb_any a0 a1 a2 a3 l0 l1 l2 l3 p0 p1 p2 p3 st (d0 : Int) (d1 : Int) (d2 : Int) (d3 : Int) w)
  have HTP := Lib.hid (fit_any a0 a1 a2 a3 l0 l1 l2 l3 p0 p1 p2 p3 st (d0 : Int) (d1 : Int) (d2 : Int) (d3 : Int) ks ns us h0 h1 h2 k8 s32 u32 w hin.i0 hin.i1 hin.i2)
  clear hin hv k8 s32 u32 t32
  go_enter Tryd.func3, Tryd.ntmps3
  go_upto_if 45 with (go_at_call 4; refine HZB.out.mono ?_; rintro e w2 ⟨⟨bb, rfl⟩, rfl⟩)
  cases bb
  · go_wp2_with fail
    go_ret
    exact ⟨rfl, Below.refl _ _⟩
  go_upto_if 56 with (go_at_call 5; refine HTP.out.mono ?_; rintro e w3 ⟨⟨d, rfl⟩, hcs⟩; have HCS := Lib.hid hcs; clear hcs; obtain ⟨bb, rfl⟩ : ∃ bb, e = .returned (.bool bb) := by (rcases HCS.out with h | h; exact ⟨_, h⟩; exact ⟨_, h.1⟩))
  have hbd : Below w2.heap.size w2 (w2.drewN d) := (Below.refl _ _).grown (gb_drewN _ _) (Nat.le_refl _) (fun k hk => by cases hk)
  cases bb
  · go_wp2_with fail
    go_ret
    exact ⟨rfl, hbd⟩
  have HF : Hid (Fit l0 l1 l2 l3 ks ns us (d0 : Int) (d1 : Int) (d2 : Int) (d3 : Int)) := by
    rcases HCS.out with h | h
    · injection h with h; injection h with h; cases h
    · exact Lib.hid h.2
  have e1 : l1 = l0 := HF.out.n1
  have e3 : l3 = l2 := HF.out.n3
  subst e1 e3
  have hle := HF.out.le
  have hl4 := HF.out.le2
  obtain ⟨w3, hw3⟩ : ∃ w3, w2.drewN d = w3 := ⟨_, rfl⟩
  have H3 : Hid (Ok w2 w3 a0 a1 a2 a3 ks ns us cs) := Lib.hid (by rw [← hw3]; exact ⟨HI.out.1.kept hbd, HI.out.2.1.below hbd, hbd⟩)
  rw [hw3]
  clear hw3 hbd HZB HTP HCS
  have HCS := Lib.hid (c8' a0 l1 p0 ks w3 h0 H3.out.1.i0 hle)
  go_upto_region 6 with (go_at_call 6; refine HCS.out.mono ?_; rintro e w4 ⟨b0, q0, rfl, hs, hb⟩; have HX := Lib.hid (And.intro hs hb); clear hs hb)
  have H4 : Hid (Ok w2 w4 b0 a1 a2 a3 ks ns us cs) := Lib.hid (by
    have := Ok.kept H3.out HX.out.2
    exact ⟨⟨HX.out.1, this.1.i1, this.1.i2, this.1.i3⟩, this.2⟩)
  clear HCS HX H3
  have HCS := Lib.hid (cu' a1 l1 p1 ns w4 h1 H4.out.1.i1 hle)
  go_upto_region 7 with (go_at_call 7; refine HCS.out.mono ?_; rintro e w5 ⟨b1, q1, rfl, hs, hb⟩; have HX := Lib.hid (And.intro hs hb); clear hs hb)
  have H5 : Hid (Ok w2 w5 b0 b1 a2 a3 ks ns us cs) := Lib.hid (by
    have := Ok.kept H4.out HX.out.2
    exact ⟨⟨this.1.i0, HX.out.1, this.1.i2, this.1.i3⟩, this.2⟩)
  clear HCS HX H4
  have HCS := Lib.hid (cu' a2 l3 p2 us w5 h2 H5.out.1.i2 hl4)
  go_upto_region 8 with (go_at_call 7; refine HCS.out.mono ?_; rintro e w6 ⟨b2, q2, rfl, hs, hb⟩; have HX := Lib.hid (And.intro hs hb); clear hs hb)
  have H6 : Hid (Ok w2 w6 b0 b1 b2 a3 ks ns us cs) := Lib.hid (by
    have := Ok.kept H5.out HX.out.2
    exact ⟨⟨this.1.i0, this.1.i1, HX.out.1, this.1.i3⟩, this.2⟩)
  clear HCS HX H5
  have HCS := Lib.hid (cu' a3 l3 p3 cs w6 h3 H6.out.1.i3 hl4)
  go_upto_region 9 with (go_at_call 7; refine HCS.out.mono ?_; rintro e w8 ⟨b3, q3, rfl, hs, hb⟩; have HX := Lib.hid (And.intro hs hb); clear hs hb)
  have H8 : Hid (Ok w2 w8 b0 b1 b2 b3 ks ns us cs) := Lib.hid (by
    have := Ok.kept H6.out HX.out.2
    exact ⟨⟨this.1.i0, this.1.i1, this.1.i2, HX.out.1⟩, this.2⟩)
  clear HCS HX H6
  have HBD := Lib.hid (build_any b0 b1 l1 q0 q1 ks ns h0 h1 HI.out.2.2.1 HI.out.2.2.2.1 hle w8 H8.out.1.i0 H8.out.1.i1)
  go_upto_region 11 with (go_at_call 8; refine HBD.out.mono ?_; rintro e w9 ⟨S, T, rfl, hS, hST, hbt, hT, hb⟩; have H9 := Lib.hid (And.intro hS (And.intro hST (And.intro hbt (And.intro hT hb)))); clear hS hST hbt hT hb)
  obtain ⟨Y, hY⟩ : ∃ Y, w9.heap.size = Y := ⟨_, rfl⟩
  have hb9 := Blk.new w9 30 #[.slice (some ⟨T, 0, none⟩) 1 1]
  have hg9 : w9.grownBy (w9.alloc (.cells #[.slice (some ⟨T, 0, none⟩) 1 1] 30)) none := gb_alloc (gb_refl _ _) _
  obtain ⟨wa, hwa⟩ : ∃ wa, w9.alloc (.cells #[.slice (some ⟨T, 0, none⟩) 1 1] 30) = wa := ⟨_, rfl⟩
  rw [hwa] at hb9 hg9 ⊢
  rw [hY] at hb9 ⊢
  clear hwa hY
  have HA : Hid (Below w8.heap.size w8 wa ∧ Bt wa S l1 l1 ks ns ∧ Blk wa T 55 #[.slice (some ⟨S, 0, none⟩) l1 l1] ∧ Blk wa Y 30 #[.slice (some ⟨T, 0, none⟩) 1 1] ∧ w8.heap.size ≤ S ∧ S < T) := Lib.hid (by
    have hk := H9.out.2.2.2.2.grown hg9 H9.out.2.2.2.2.size (fun k hk => by cases hk)
    obtain ⟨cs, r1, r2, r3, r4⟩ := H9.out.2.2.1.out
    exact ⟨hk, ⟨cs, r1.gb hg9 (by simp), r2, r3, r4⟩, H9.out.2.2.2.1.gb hg9 (by simp), hb9, H9.out.1, H9.out.2.1⟩)
  clear HBD H9 hb9 hg9
  have hy0 : wa.drew.cell? ⟨Y, 0, none⟩ = some (.slice (some ⟨T, 0, none⟩) 1 1) := HA.out.2.2.2.1.cell 0
  have HSC := Lib.hid (fun (w : World) => sc_any (d0 : Int) (d1 : Int) (d2 : Int) (d3 : Int) w)
  have hcb : d0 ≤ 65536 ∧ d1 ≤ 65536 ∧ d2 ≤ 65536 ∧ d3 ≤ 65536 := by have := HF.out.c; omega
  have HNW := Lib.hid (fun (w : World) => new_any T d0 d1 d2 d3 hcb.1 hcb.2.1 hcb.2.2.1 hcb.2.2.2 w)
  have HCB := Lib.hid hcb
  clear hcb
  go_region_held3 (fun w' => w'.cell? ⟨Y, 0, none⟩ = some (.slice (some ⟨T, 0, none⟩) 1 1)) (first | (go_keep; done) | exact HY3.out | exact HY2.out)
    (first | (go_at_call 10; refine (HSC.out _).mono ?_; rintro e wb ⟨rfl, hgb⟩; have HB := Lib.hid (gb_und hgb); have HY2 := Lib.hid ((HA.out.2.2.2.1.gb (gb_und hgb) (by simp)).cell 0); clear hgb) | (go_at_call 9; refine (HNW.out _).mono ?_; rintro e wc ⟨R, bm, g0, g1, g2, g3, rfl, hnew, hbc⟩; have HC := Lib.hid (And.intro hnew hbc); have HY3 : Hid (wc.cell? ⟨Y, 0, none⟩ = some (.slice (some ⟨T, 0, none⟩) 1 1)) := Lib.hid ((hbc.cell (p := ⟨Y, 0, none⟩) (by have := HA.out.2.2.2.1.lt; have := HB.out.size; show Y < _; omega)).trans HY2.out); clear hnew hbc))
  have HD : Hid (Below w8.heap.size w8 wc ∧ New wc w8.heap.size R T bm g0 g1 g2 g3 d0 d1 d2 d3 ∧ (∃ kc, Sy wc T S 1 l1 kc id (fun _ => 0) ∧ Kc kc l1 ks ns) ∧ w8.heap.size ≤ S ∧ S < T) := Lib.hid (by
    have hba : Below wa.heap.size wa wc := ((Below.refl _ _).grown HB.out (Nat.le_refl _) (fun k hk => by cases hk)).trans (HC.out.2.mono HB.out.size)
    obtain ⟨kc, k1, k2⟩ := HA.out.2.1.sy HA.out.2.2.1
    have hw2a := HA.out.1.size
    have hab := HB.out.size
    have hle := HC.out.1.le
    have hnew := HC.out.1
    exact ⟨HA.out.1.trans (hba.mono HA.out.1.size), ⟨hnew.blk, hnew.r0, hnew.r1, hnew.r2, hnew.r3, hnew.map, hnew.ne, by omega⟩, ⟨kc, k1.kept hba, k2⟩, HA.out.2.2.2.2.1, HA.out.2.2.2.2.2⟩)
  clear HA HB HC hy0 HSC HNW
  have hmm := mm_hint l3 wc
  go_upto_region 13 with fail
  clear hmm
  obtain ⟨M, hM⟩ : ∃ M, wc.heap.size = M := ⟨_, rfl⟩
  obtain ⟨wm, hwm⟩ : ∃ wm, wc.alloc (.map #[] 0) = wm := ⟨_, rfl⟩
  have HM1 : Hid (Mu wm M 0 (.map []) ∧ wc.grownBy wm none) := Lib.hid (by
    rw [← hwm, ← hM]
    exact ⟨Mu.fresh (blk_new _ _), gb_alloc (gb_refl _ _) _⟩)
  have HMM := Lib.hid hM
  rw [hM, hwm]
  clear hM hwm
  go_upto_region 14 with (at_make; refine wpList_make_row wm rfl _ _ 38 rfl 4 (.bool false) rfl 1 Tryd.underlying38 b_info l1 rfl rfl (by omega) (by unfold maxLen; omega) ?_; intro wp hp hgp; have HP1 := Lib.hid (And.intro hp hgp); clear hp hgp)
  obtain ⟨P, hP⟩ : ∃ P, wm.heap.size = P := ⟨_, rfl⟩
  rw [hP] at HP1 ⊢
  have HPP := Lib.hid hP
  clear hP
  go_upto_region 15 with (at_make; refine wpList_make_row wp rfl _ _ 23 rfl 24 (.int .u32 0) rfl 4 Tryd.underlying23 u_info l1 rfl rfl (by omega) (by unfold maxLen; omega) ?_; intro wq hp hgp; have HQ1 := Lib.hid (And.intro hp hgp); clear hp hgp)
  obtain ⟨Q, hQ⟩ : ∃ Q, wp.heap.size = Q := ⟨_, rfl⟩
  rw [hQ] at HQ1 ⊢
  have HS0 : Hid (S1 wc wq M P Q l1 us cs 0) := Lib.hid (by
    have m1 := HM1.out.2.size
    have m2 := HP1.out.2.size
    have e1 := HMM.out
    have e2 := HPP.out
    refine ⟨⟨_, (HM1.out.1.kept HP1.out.2 (by simp)).kept HQ1.out.2 (by simp), Uses.nil _ _ _⟩, (HP1.out.1.gb HQ1.out.2 (by simp)).congr (fun _ _ => rfl), HQ1.out.1.congr (fun _ _ => rfl), ?_, by omega⟩
    exact (Below.refl _ _).grown (gb_trans (gb_trans HM1.out.2 HP1.out.2) HQ1.out.2) (Nat.le_refl _) (fun k hk => by cases hk))
  clear hQ HM1 HP1 HQ1 HMM HPP
  go_wp2_with fail
  go_loopg [25, 26] l3 (fun gk a b wx => ∃ i : Nat, a = .int .i64 (i : Int) ∧ i ≤ l3 ∧ l3 - i ≤ gk ∧ Hid (S1 wc wx M P Q l1 us cs i))
  case atStart => exact ⟨0, rfl, by omega, by omega, HS0⟩
  case round =>
    obtain ⟨i, rfl, hi, hk, HL⟩ := hrel
    obtain ⟨wz, rfl⟩ : ∃ wz : World, wz = wr := ⟨_, rfl⟩
    rcases (show l3 = i ∨ i < l3 by omega) with he | hlt
    · obtain rfl := he
      go_wp2_with fail
      go_loopg [27, 28] l1 (fun gk a b wx => ∃ j : Nat, a = .int .i64 ((cnt (fun t => inT us l3 t && lst ks ns t) j : Nat) : Int) ∧ b = .int .i64 (j : Int) ∧ j ≤ l1 ∧ l1 - j ≤ gk ∧ wz = wx)
      case atStart => exact ⟨0, rfl, rfl, by omega, by omega, rfl⟩
      case round =>
        obtain ⟨j, rfl, rfl, hj, hk2, rfl⟩ := hrel
        rcases (show l1 = j ∨ j < l1 by omega) with he | hlt
        · obtain rfl := he
          have hz46 : (zeroValue 46).run Tryd.prog wz = .ok (.slice none 0 0) wz := by kernel_rfl
          go_upto_region 29 with fail
          clear hz46
          obtain ⟨A, hA⟩ : ∃ A, wz.heap.size = A := ⟨_, rfl⟩
          obtain ⟨wt, hwt⟩ : ∃ wt, wz.alloc (.cells #[.slice none 0 0] 46) = wt := ⟨_, rfl⟩
          have HA1 : Hid (Blk wt A 46 #[.slice none 0 0] ∧ wz.grownBy wt none ∧ wz.heap.size = A) := Lib.hid (by
            rw [← hwt, ← hA]
            exact ⟨Blk.new _ _ _, gb_alloc (gb_refl _ _) _, rfl⟩)
          rw [hA, hwt]
          clear hA hwt
          go_upto_region 30 with (at_make; refine wpList_make_row wt rfl _ _ 23 rfl 24 (.int .u32 0) rfl 4 Tryd.underlying23 u_info 1 rfl rfl (by omega) (by unfold maxLen; omega) ?_; intro wu hp hgp; have HX1 := Lib.hid (And.intro hp hgp); clear hp hgp)
          obtain ⟨X, hX⟩ : ∃ X, wt.heap.size = X := ⟨_, rfl⟩
          rw [hX] at HX1 ⊢
          have HXX := Lib.hid hX
          clear hX
          have x0 := HX1.out.1.cell (t := 0) (by omega)
          have fx := HX1.out.1.free 0
          have xl := HX1.out.1.lt
          go_upto_region 31 with fail
          clear x0 fx xl
          obtain ⟨wv, hwv⟩ : ∃ wv, wu.setCell ⟨X, 0, none⟩ (.int .u32 st) = wv := ⟨_, rfl⟩
          obtain ⟨kc, hsy, hkc⟩ := HD.out.2.2.1
          obtain ⟨D, hmu, hU⟩ := HL.out.mu
          have hsz : w8.heap.size ≤ A := by have := HA1.out.2.2; have := HD.out.1.size; have := HL.out.bl.size; omega
          have HV : Hid (St wv w8.heap.size R T S A X l1 g0 g1 d0 d1 kc (.slice (some ⟨g2, 0, none⟩) d2 d2) (.slice (some ⟨g3, 0, none⟩) d3 d3) (.map (some bm)) st (.slice none 0 0) 0 [] ∧ Mu wv M l3 D ∧ Below wz.heap.size wz wv) := Lib.hid (by
            have ha := HA1.out.2.2
            have hax := HA1.out.2.1.size
            have hxx := HXX.out
            have hAl := HA1.out.1.lt
            have hbv : Below wz.heap.size wz wv := by
              rw [← hwv]
              exact (((Below.refl _ _).grown HA1.out.2.1 (Nat.le_refl _) (fun k hk => by cases hk)).grown HX1.out.2 hax (fun k hk => by cases hk)).setCell (p := ⟨X, 0, none⟩) (by show wz.heap.size ≤ X; omega) _
            have hcv : Below wc.heap.size wc wv := HL.out.bl.trans (hbv.mono HL.out.bl.size)
            have hnew := HD.out.2.1.kept hcv
            have hok := (H8.out.kept HD.out.1).kept hcv
            have s1 : wu.grownBy wv (some X) := by rw [← hwv]; exact gb_set (gb_refl _ _) _ _ _
            have hvar : Blk wv A 46 #[.slice none 0 0] := (HA1.out.1.gb HX1.out.2 (by simp)).gb s1 (fun e => by have := Option.some.inj e; omega)
            have hx : Blk wv X 24 #[.int .u32 st] := by
              obtain ⟨cu, z1, z2, z3⟩ := HX1.out.1.out
              have h := z1.set 0 (.int .u32 st)
              rw [hwv] at h
              have e : cu.setIfInBounds 0 (.int .u32 st) = #[.int .u32 st] := by
                apply Array.ext
                · simp [z2]
                · intro i h1 h2
                  have : i = 0 := by simp at h2; omega
                  subst this
                  simp
              rw [e] at h
              exact h
            have hmv : Mu wv M l3 D := by
              have h1 := (hmu.kept HA1.out.2.1 (by simp)).kept HX1.out.2 (by simp)
              refine h1.kept s1 (fun e => ?_)
              have h2 := h1.lt
              obtain ⟨cu, z1, _⟩ := HX1.out.1.out
              exact (Mu.nb h1 z1) (Option.some.inj e).symm
            have h0 : 0 < w8.heap.size := World.block_lt_of_cell? w8 _ H8.out.2.1.1
            have hST := HD.out.2.2.2
            exact ⟨⟨hnew.blk, SlAt.made hnew.r0 hnew.le.2.2.1 HCB.out.1, SlAt.made hnew.r1 hnew.le.2.2.2.1 HCB.out.2.1, hnew.ne.1, hsy.kept hcv, hok.2.1, hvar, World.ownsRow_nil _ _ _ _, hx, h0, hST.1, by omega, hsz, hnew.le.1⟩, hmv, hbv⟩)
          have HUC := Lib.hid (uc_any w8.heap.size R T S A X l1 g0 g1 d0 d1 M l3 l3 kc us cs ks ns (.slice (some ⟨g2, 0, none⟩) d2 d2) (.slice (some ⟨g3, 0, none⟩) d3 d3) (.map (some bm)) st D hle hkc (fun i hi => HI.out.2.2.2.1 i (by omega)) (fun i hi => HI.out.2.2.1 i (by omega)) HF.out.nest ⟨by have := HCB.out; omega, by have := HCB.out; omega⟩ hU wv (by have := HV.out.2.2.size; have := HA1.out.2.2; omega) HV.out.1 HV.out.2.1)
          have HKS := Lib.hid (And.intro hkc (And.intro hmu hU))
          rw [hwv]
          clear hwv hsy hkc hmu hU
          go_upto_region 32 with (go_at_call 13; refine HUC.out.mono ?_; rintro e ww ⟨rfl, v, es, hlp⟩; have HLP := Lib.hid hlp; clear hlp)
          have HT : Hid (∃ (a : Option Addr) (cap : Nat), v = .slice a es.length cap ∧ Tl w2 ww b0 b1 b2 b3 ks ns us cs A P Q l1 l3 cap st a es) := Lib.hid (by
            obtain ⟨a, cap, rfl, hrow⟩ := own_at HLP.out.st.own
            have hnew := HD.out.2.1.le
            have hS := HD.out.2.2.2.1
            have hA := HV.out.1.le.2.2.2.1
            have h8v : Below w8.heap.size w8 wv := HD.out.1.trans ((HL.out.bl.mono HD.out.1.size).trans (HV.out.2.2.mono (Nat.le_trans HD.out.1.size HL.out.bl.size)))
            have h8w : Below w8.heap.size w8 ww := h8v.trans ⟨HLP.out.kp.os, HLP.out.kp.tape, HLP.out.kp.output, HLP.out.kp.size, fun i hi => HLP.out.kp.block i (Nat.lt_of_lt_of_le hi h8v.size) (by rintro (e | e | e | e) <;> omega)⟩
            have hp := HL.out.pr.kept HV.out.2.2
            have hq := HL.out.la.kept HV.out.2.2
            obtain ⟨u1, z1⟩ := hp.blk
            obtain ⟨u2, z2⟩ := hq.blk
            exact ⟨a, cap, rfl, H8.out.kept h8w, HLP.out.st.var, hrow, HLP.out.kp.rw hp (HV.out.1.notL0 z1 (by decide)), HLP.out.kp.rw hq (HV.out.1.notL0 z2 (by decide)), HLP.out.es⟩)
          obtain ⟨a, cap, rfl, htl⟩ := HT.out
          have HT2 := Lib.hid htl
          have hlen : es.length = cnt (fun t => inT us l3 t && lst ks ns t) l1 := by rw [htl.es.num]; simp
          have hln := htl.es.len
          have y0 := htl.var.cell 0
          clear htl HT HLP HKS HUC HV HX1 HA1
          rw [← hlen]
          have HLN := Lib.hid hlen
          clear hlen
          obtain ⟨m, hm⟩ : ∃ m, es.length = m := ⟨_, rfl⟩
          have HM := Lib.hid hm
          rw [hm] at hln y0 ⊢
          clear hm
          go_upto_region 35 with (first | (go_at_call 14; refine (len_any _ _ _ _).mono ?_; rintro e wk ⟨rfl, rfl⟩) | (at_make; refine wpList_make_row wk rfl _ _ 38 rfl 4 (.bool false) rfl 1 Tryd.underlying38 b_info l1 rfl rfl (by omega) (by unfold maxLen; omega) ?_; intro wn hz hgz; have HZ1 := Lib.hid (And.intro hz hgz); clear hz hgz))
          obtain ⟨Z, hZ⟩ : ∃ Z, wk.heap.size = Z := ⟨_, rfl⟩
          rw [hZ] at HZ1 ⊢
          have HZZ := Lib.hid hZ
          clear hZ y0
          go_wp2_with fail
          go_loopg [32, 33, 34] m (fun gk a' _ _ wx => ∃ q : Nat, a' = .int .i64 (q : Int) ∧ q ≤ m ∧ m - q ≤ gk ∧ Hid (Rw wx Z 4 l1 (fun t => .bool (decide (t ∈ es.take q))) ∧ Below wk.heap.size wk wx))
          case atStart => exact ⟨0, rfl, by omega, by omega, Lib.hid ⟨HZ1.out.1.congr (fun _ _ => by simp), (Below.refl _ _).grown HZ1.out.2 (Nat.le_refl _) (fun k hk => by cases hk)⟩⟩
          case round =>
            obtain ⟨q, rfl, hq, hk3, HQ⟩ := hrel
            obtain ⟨wy, rfl⟩ : ∃ wy : World, wy = wr := ⟨_, rfl⟩
            have htl := HT2.out.kept HQ.out.2
            have y0 := htl.var.cell 0
            rw [HM.out] at y0
            rcases (show m = q ∨ q < m by omega) with he | hqm
            · obtain rfl := he
              have hres := htl.ok.2.2
              clear htl
              go_wp2_with (go_at_call 14; refine (len_any _ _ _ _).mono ?_; rintro e wk2 ⟨rfl, rfl⟩)
              go_ret
              exact ⟨rfl, hres⟩
            · obtain ⟨g, t, rfl, het, htn, hin, hls, hgl, r0, r1, r2, r3⟩ := htl.entry (by rw [HM.out]; exact hqm)
              clear htl
              have hqi : (q : Int) < (m : Int) := by omega
              obtain ⟨c, hc⟩ : ∃ c, lastT us cs l3 t = c := ⟨_, rfl⟩
              rw [hc] at r3
              have HCC := Lib.hid hc
              have HTT := Lib.hid (And.intro het (And.intro hin hls))
              clear hc het hin hls
              go_upto_region 38 with (go_at_call 14; refine (len_any _ _ _ _).mono ?_; rintro e wk2 ⟨rfl, rfl⟩)
              go_upto_region 39 with fail
              obtain ⟨E, hE⟩ : ∃ E, wk2.heap.size = E := ⟨_, rfl⟩
              obtain ⟨we, hwe⟩ : ∃ we, wk2.alloc (.cells #[.int .u32 st, .int .u32 0, .int .u32 (t : Int), .int .u32 c] 51) = we := ⟨_, rfl⟩
              have HE : Hid (Blk we E 51 #[.int .u32 st, .int .u32 0, .int .u32 (t : Int), .int .u32 c] ∧ Tl w2 we b0 b1 b2 b3 ks ns us cs A P Q l1 l3 cap st (some ⟨g, 0, none⟩) es ∧ Rw we Z 4 l1 (fun t => .bool (decide (t ∈ es.take q))) ∧ Below wk.heap.size wk we ∧ Z < E ∧ Q < E ∧ Q ≠ Z) := Lib.hid (by
                rw [← hwe, ← hE]
                have hba : Below wk2.heap.size wk2 (wk2.alloc (.cells #[.int .u32 st, .int .u32 0, .int .u32 (t : Int), .int .u32 c] 51)) := (Below.refl _ _).alloc (Nat.le_refl _) _
                have h1 := HT2.out.kept HQ.out.2
                have hq2 := HT2.out.la.lt
                have hz := HZZ.out
                exact ⟨Blk.new _ _ _, h1.kept hba, HQ.out.1.kept hba, HQ.out.2.trans (hba.mono HQ.out.2.size), HQ.out.1.lt, h1.la.lt, by omega⟩)
              rw [hwe, hE]
              clear hwe hE y0 r0 r1 r2 r3 hgl
              have e0 := HE.out.1.cell 0
              have e1 := HE.out.1.cell 1
              have e2 := HE.out.1.cell 2
              obtain ⟨x0, y0, rfl, _, v0⟩ := HE.out.2.1.ok.1.i0.at (i := t) (by omega)
              obtain ⟨x1, y1, rfl, _, v1⟩ := HE.out.2.1.ok.1.i1.at (i := t) (by omega)
              have hk8 := HI.out.2.2.1 t (by omega)
              obtain ⟨kk, hkk⟩ : ∃ kk, nth ks t = kk := ⟨_, rfl⟩
              have hns : nth ns t = 0 := by have h := HTT.out.2.2; unfold lst at h; simp at h; exact h.2
              have hpn : pin kk = false := by have h := HTT.out.2.2; unfold lst at h; simp [hkk] at h; simp [pin, h.1]
              rw [hkk] at v0 hk8
              rw [hns] at v1
              have HPN := Lib.hid (fun (w : World) => pin_any kk hk8.1 hk8.2 w)
              rw [hpn] at HPN
              have pc := HE.out.2.1.pr.cell htn
              rw [HTT.out.2.1] at pc
              have zc := HE.out.2.2.1.cell htn
              have hzf : decide (t ∈ es.take q) = false := by simpa using nodup_take HT2.out.es.nodup HTT.out.1
              rw [hzf] at zc
              have fz := HE.out.2.2.1.free t
              have zl := HE.out.2.2.1.lt
              have hwr : (l1 : Int) % 4294967296 = (l1 : Int) := by omega
              have d0 : decide ((l1 : Int) ≤ (t : Int)) = false := by simpa using htn
              have hez : E ≠ Z := by have := HE.out.2.2.2.2; omega
              have w0 : (we.setCell ⟨Z, t, none⟩ (.bool true)).cell? ⟨E, 0, none⟩ = some (.int .u32 st) := cell_sn (HE.out.1.cell 0) hez
              have w3 : (we.setCell ⟨Z, t, none⟩ (.bool true)).cell? ⟨E, 3, none⟩ = some (.int .u32 c) := cell_sn (HE.out.1.cell 3) hez
              have qc : (we.setCell ⟨Z, t, none⟩ (.bool true)).cell? ⟨Q, t, none⟩ = some (.int .u32 c) := cell_sn (by have h := HE.out.2.1.la.cell htn; rw [HCC.out] at h; exact h) HE.out.2.2.2.2.2.2
              have HFIN : Hid (Rw (we.setCell ⟨Z, t, none⟩ (.bool true)) Z 4 l1 (fun t => .bool (decide (t ∈ es.take (q + 1)))) ∧ Below wk.heap.size wk (we.setCell ⟨Z, t, none⟩ (.bool true))) := Lib.hid ⟨(HE.out.2.2.1.set t (.bool true)).congr (fun x hx => by
                simp only [take_mem HTT.out.1]
                by_cases hxt : x = t
                · subst hxt; simp
                · simp [hxt]), HE.out.2.2.2.1.setCell (p := ⟨Z, t, none⟩) (by show wk.heap.size ≤ Z; have := HZZ.out; omega) _⟩
              clear hzf hns hpn hkk hez
              go_wp2_with (go_at_call 12; refine (HPN.out _).mono ?_; rintro e wk3 ⟨rfl, rfl⟩)
              have hcc : decide (c = c) = true := by simp
              have hst : decide (st = st) = true := by simp
              go_quiet (fail)
              go_wp2_with fail
              go_roundg (gk - 1)
              case measure => omega
              case rel => exact ⟨q + 1, by go_num, by omega, by omega, Lib.hid ⟨HFIN.out.1.gb (gb_drewN _ _) (by simp), HFIN.out.2.grown (gb_drewN _ _) HFIN.out.2.size (fun k hk => by cases hk)⟩⟩
        · have hok := (H8.out.kept HD.out.1).kept HL.out.bl
          obtain ⟨x0, y0, rfl, _, v0⟩ := hok.1.i0.at (i := j) (by omega)
          obtain ⟨x1, y1, rfl, _, v1⟩ := hok.1.i1.at (i := j) (by omega)
          have hk8 := HI.out.2.2.1 j (by omega)
          obtain ⟨kk, hkk⟩ : ∃ kk, nth ks j = kk := ⟨_, rfl⟩
          obtain ⟨s, hss⟩ : ∃ s, nth ns j = s := ⟨_, rfl⟩
          have hp := HL.out.pr.cell hlt
          obtain ⟨bb, hbb⟩ : ∃ bb, inT us l3 j = bb := ⟨_, rfl⟩
          rw [hkk] at v0 hk8
          rw [hss] at v1
          rw [hbb] at hp
          have hcl := cnt_le (fun t => inT us l3 t && lst ks ns t) j
          have hcn : cnt (fun t => inT us l3 t && lst ks ns t) (j + 1) = cnt (fun t => inT us l3 t && lst ks ns t) j + (if (bb && (!(kk % 3 == 0) && (s == 0))) = true then 1 else 0) := by
            show _ + _ = _
            unfold lst
            simp only [hbb, hkk, hss]
          have HCN := Lib.hid hcn
          obtain ⟨c0, hc0⟩ : ∃ c0, cnt (fun t => inT us l3 t && lst ks ns t) j = c0 := ⟨_, rfl⟩
          rw [hc0] at HCN hcl ⊢
          have HPN := Lib.hid (fun (w : World) => pin_any kk hk8.1 hk8.2 w)
          clear hok hkk hss hbb hc0 hcn
          cases bb
          · go_wp2_with fail
            go_roundg (gk - 1)
            case measure => omega
            case rel => exact ⟨j + 1, by rw [HCN.out]; simp, by go_num, by omega, by omega, rfl⟩
          · by_cases k0 : kk % 3 = 0
            · have hpn : pin kk = true := by simp [pin, k0]
              rw [hpn] at HPN
              have HK0 := Lib.hid k0
              clear k0
              go_wp2_with (go_at_call 12; refine (HPN.out _).mono ?_; rintro e wk ⟨rfl, rfl⟩)
              go_roundg (gk - 1)
              case measure => omega
              case rel => exact ⟨j + 1, by rw [HCN.out]; simp [HK0.out], by go_num, by omega, by omega, rfl⟩
            · have hpn : pin kk = false := by simp [pin, k0]
              rw [hpn] at HPN
              have HK0 := Lib.hid k0
              clear k0
              by_cases s0 : s = 0
              · have e0 : (s == 0) = true := by simp [s0]
                have HS := Lib.hid s0
                clear s0
                go_wp2_with (go_at_call 12; refine (HPN.out _).mono ?_; rintro e wk ⟨rfl, rfl⟩)
                go_roundg (gk - 1)
                case measure => omega
                case rel => exact ⟨j + 1, by rw [HCN.out]; simp [HK0.out, HS.out], by go_num, by omega, by omega, rfl⟩
              · have e0 : (s == 0) = false := by simp [s0]
                have HS := Lib.hid s0
                clear s0
                go_wp2_with (go_at_call 12; refine (HPN.out _).mono ?_; rintro e wk ⟨rfl, rfl⟩)
                go_roundg (gk - 1)
                case measure => omega
                case rel => exact ⟨j + 1, by rw [HCN.out]; simp [HS.out], by go_num, by omega, by omega, rfl⟩
    · have hcc : Below wc.heap.size wc wz := HL.out.bl
      have hok := (H8.out.kept HD.out.1).kept hcc
      obtain ⟨x2, y2, rfl, _, v2⟩ := hok.1.i2.at (i := i) (by omega)
      obtain ⟨x3, y3, rfl, _, v3⟩ := hok.1.i3.at (i := i) (by omega)
      have hus := HI.out.2.2.2.2.1 i (by omega)
      have huf := HF.out.uses i (by omega)
      obtain ⟨t, ht⟩ : ∃ t : Nat, nth us i = (t : Int) := ⟨(nth us i).toNat, by omega⟩
      obtain ⟨z, hz⟩ : ∃ z, nth cs i = z := ⟨_, rfl⟩
      rw [ht] at v2 huf hus
      rw [hz] at v3
      have htn : t < l1 := by omega
      obtain ⟨D, hmu, hU⟩ := HL.out.mu
      have hlb : x3 ≠ M ∧ x3 ≠ P ∧ x3 ≠ Q := by
        have hok2 := H8.out.kept HD.out.1
        have hsz : x3 < wc.heap.size := by
          obtain ⟨x3', y3', e, hl, _⟩ := hok2.1.i3.at (i := i) (by omega)
          cases e
          exact hl
        have := HL.out.le
        omega
      have HX := Lib.hid (And.intro ht (And.intro hz (And.intro hmu (And.intro hU hlb))))
      clear hcc hok hmu hU ht hz hlb hus huf
      have HRF := Lib.hid (fun (w : World) => ref_any (t : Int) w)
      have hP0 := HL.out.pr.cell htn
      have hQ0 := HL.out.la.cell htn
      have hPl := HL.out.pr.lt
      have hQl := HL.out.la.lt
      go_upto_region 19 with fail
      clear hP0 hQ0
      have v3' : wz.drew.cell? ⟨x3, y3 + i, none⟩ = some (.int .u32 z) := v3
      have HV3 := Lib.hid v3
      clear v3 v2
      go_region_with (go_at_call 11; refine (HRF.out _).mono ?_; rintro e w5 ⟨rfl, hg5⟩; have n5 : w5.cell? ⟨x3, y3 + i, none⟩ = some (.int .u32 z) := (World.cell?_of_block (w := wz) ((gb_und hg5).block x3 (World.block_lt_of_cell? wz _ HV3.out) (by simp))).trans HV3.out; obtain ⟨w6, hup, hmu6, hg6⟩ := Mu.put (c := z) (HX.out.2.2.1.kept (gb_und hg5) (by simp)) (by unfold maxLen; omega) (show t < 4294967296 by omega); have H6 := Lib.hid (And.intro (gb_und hg5) (And.intro hmu6 (And.intro hg6 n5))); clear hg5 hmu6 hg6)
      all_goals
        have nR : ∀ {x y : Nat}, x ≠ y → some x ≠ some y := fun h e => h (Option.some.inj e)
        obtain ⟨u1, b1⟩ := HL.out.pr.blk
        obtain ⟨u2, b2⟩ := HL.out.la.blk
        have hMP := HX.out.2.2.1.nb b1
        have hMQ := HX.out.2.2.1.nb b2
        have hPQ : P ≠ Q := blk_ne b1 b2 (by decide)
        have p6 := (HL.out.pr.gb H6.out.1 (by simp)).gb H6.out.2.2.1 (nR hMP)
        have q6 := (HL.out.la.gb H6.out.1 (by simp)).gb H6.out.2.2.1 (nR hMQ)
        have s1 : w6.grownBy (w6.setCell ⟨P, t, none⟩ (.bool true)) (some P) := gb_set (gb_refl _ _) _ _ _
        have q7 := q6.gb s1 (nR (Ne.symm hPQ))
        have v6 : w6.cell? ⟨x3, y3 + i, none⟩ = some (.int .u32 z) := (World.cell?_of_block (w := w5) (H6.out.2.2.1.block x3 (World.block_lt_of_cell? w5 _ H6.out.2.2.2) (nR HX.out.2.2.2.2.1))).trans H6.out.2.2.2
        have v7 : (w6.setCell ⟨P, t, none⟩ (.bool true)).cell? ⟨x3, y3 + i, none⟩ = some (.int .u32 z) := cell_sn v6 HX.out.2.2.2.2.2.1
        have hP6 := p6.cell htn
        have fP := p6.free t
        have hQ7 := q7.cell htn
        have fQ := q7.free t
        have HST : Hid (S1 wc ((w6.setCell ⟨P, t, none⟩ (.bool true)).setCell ⟨Q, t, none⟩ (.int .u32 z)) M P Q l1 us cs (i + 1)) := Lib.hid (by
          have h := HL.out.step hle htn HX.out.1 HX.out.2.2.2.1 H6.out.1 (by rw [HX.out.2.1]; exact H6.out.2.1) H6.out.2.2.1
          rw [HX.out.2.1] at h
          exact h)
        clear b1 b2 p6 q6 q7 s1 nR hMP hMQ hPQ n5 hup
        go_wp2_with fail
        go_roundg (gk - 1)
        case measure => omega
        case rel => exact ⟨i + 1, by go_num, by omega, by omega, HST⟩
end Go.Proofs.YtnfjfjcdehohhaaDoor
