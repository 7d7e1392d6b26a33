/-
  The symbol table that the law lays: zzBuild. No statement of the seat is proved here.
-/
import Derived.Test.YtggepefjodgcgaaDoorZg
import Derived.Deep.OwnRows
namespace Go.Proofs.YtggepefjodgcgaaDoor
open Go.RowKit
set_option linter.unusedVariables false
set_option linter.unusedSimpArgs false

theorem Blk.has {w : World} {S : Nat} {t : TypeId} {cs : Array Value} (h : Blk w S t cs) {i : Nat} (hi : i < cs.size) : ∃ u, w.cell? ⟨S, i, none⟩ = some u := ⟨cs[i], by rw [h.cell, Array.getElem?_eq_getElem hi]⟩
/-- the link of symbol i: forward and inside the table, or none -/
def fwd (ls : List Int) (n i : Nat) : Bool := decide ((i : Int) < nth ls i) && decide (nth ls i < (n : Int))
def zsym (e0 : ByteArray) : Array Value := #[.pointer none, .string e0, .int .u32 0, .int .u32 0, .int .u32 0, .int .u32 0, .int .u32 0, .int .u16 0, .int .u8 0, .int .u8 0]
theorem info63 : (Tryd.prog.info? 63).map (fun i => (i.zero, i.size, i.bytes)) = some (some (.agg (zsym ByteArray.empty)), 10, 48) := by kernel_rfl
/-- symbol i, laid -/
structure Row (cs : Array Value) (n : Nat) (ts : List ByteArray) (ks ls ns : List Int) (i : Nat) : Prop where
  name : cs[i * 10 + 1]? = some (.string (tth ts i))
  l0 : cs[i * 10 + 2]? = some (.int .u32 (if fwd ls n i = true then 0 else 4294967295))
  l1 : cs[i * 10 + 3]? = some (.int .u32 (if fwd ls n i = true then nth ls i else 4294967295))
  nest : cs[i * 10 + 6]? = some (.int .u32 (if nth ns i = 0 then 0 else 4294967295 - (nth ns i - 1)))
  flags : cs[i * 10 + 7]? = some (.int .u16 0)
  kind : cs[i * 10 + 8]? = some (.int .u8 (kindOf (nth ks i)))
/-- symbol i, not laid yet -/
def Raw (cs : Array Value) (i : Nat) : Prop := cs[i * 10 + 6]? = some (.int .u32 0) ∧ cs[i * 10 + 7]? = some (.int .u16 0)
structure Bt (w : World) (S n k : Nat) (ts : List ByteArray) (ks ls ns : List Int) : Prop where
  out : ∃ cs, Blk w S 63 cs ∧ cs.size = 10 * n ∧ (∀ i, i < k → Row cs n ts ks ls ns i) ∧ ∀ i, k ≤ i → i < n → Raw cs i
theorem Row.set {cs : Array Value} {n : Nat} {ts : List ByteArray} {ks ls ns : List Int} {i : Nat} (h : Row cs n ts ks ls ns i) {j : Nat} (hj : j < i * 10 ∨ i * 10 + 10 ≤ j) (v : Value) : Row (cs.setIfInBounds j v) n ts ks ls ns i :=
  ⟨by rw [Array.getElem?_setIfInBounds_ne (by omega)]; exact h.name, by rw [Array.getElem?_setIfInBounds_ne (by omega)]; exact h.l0, by rw [Array.getElem?_setIfInBounds_ne (by omega)]; exact h.l1, by rw [Array.getElem?_setIfInBounds_ne (by omega)]; exact h.nest, by rw [Array.getElem?_setIfInBounds_ne (by omega)]; exact h.flags, by rw [Array.getElem?_setIfInBounds_ne (by omega)]; exact h.kind⟩
theorem Raw.set {cs : Array Value} {i j : Nat} (h : Raw cs i) (hj : j < i * 10 ∨ i * 10 + 10 ≤ j) (v : Value) : Raw (cs.setIfInBounds j v) i :=
  ⟨by rw [Array.getElem?_setIfInBounds_ne (by omega)]; exact h.1, by rw [Array.getElem?_setIfInBounds_ne (by omega)]; exact h.2⟩
/-- the cells of symbol k are laid in some order: what came is a table with one symbol more -/
theorem Bt.step {w w' : World} {S n k : Nat} {ts : List ByteArray} {ks ls ns : List Int} {cs cs' : Array Value} (hb : Blk w' S 63 cs') (hsz : cs'.size = 10 * n) (h1 : ∀ i, i < k → Row cs n ts ks ls ns i) (h2 : ∀ i, k ≤ i → i < n → Raw cs i)
    (ho : ∀ j, (j < k * 10 ∨ k * 10 + 10 ≤ j) → cs'[j]? = cs[j]?) (hr : Row cs' n ts ks ls ns k) : Bt w' S n (k + 1) ts ks ls ns := by
  refine ⟨cs', hb, hsz, fun i hi => ?_, fun i hi hn => ?_⟩
  · by_cases e : i = k
    · subst e; exact hr
    · have h := h1 i (by omega)
      exact ⟨by rw [ho _ (by omega)]; exact h.name, by rw [ho _ (by omega)]; exact h.l0, by rw [ho _ (by omega)]; exact h.l1, by rw [ho _ (by omega)]; exact h.nest, by rw [ho _ (by omega)]; exact h.flags, by rw [ho _ (by omega)]; exact h.kind⟩
  · have h := h2 i (by omega) hn
    exact ⟨by rw [ho _ (by omega)]; exact h.1, by rw [ho _ (by omega)]; exact h.2⟩

set_option maxRecDepth 100000 in
theorem inv_any (w : World) : Calls Tryd.prog 21 #[] w fun e w' => e = .returned (.agg #[.int .u32 4294967295, .int .u32 4294967295]) ∧ w.grownBy w' none := by
  have hz : (zeroValue 42).run Tryd.prog w = .ok (.agg #[.int .u32 0, .int .u32 0]) w := by kernel_rfl
  have hb := Blk.new w 42 #[.int .u32 4294967295, .int .u32 4294967295]
  go_enter Tryd.func21, Tryd.ntmps21
  go_wp2_with fail
  exact bodyPost_ret (v := .agg #[.int .u32 4294967295, .int .u32 4294967295]) (results_cell_row (d := _) Tryd.results21 _ _ w.heap.size 42 _ (0, 0) (by rfl) hb Tryd.underlying42 rfl (by kernel_rfl)) rfl ⟨rfl, gb_alloc (gb_refl _ _) _⟩
set_option maxRecDepth 100000 in
theorem ref_any (z : Int) (w : World) : Calls Tryd.prog 12 #[.int .u32 z] w fun e w' => e = .returned (.agg #[.int .u32 0, .int .u32 z]) ∧ w.grownBy w' none := by
  have hz : (zeroValue 42).run Tryd.prog w = .ok (.agg #[.int .u32 0, .int .u32 0]) w := by kernel_rfl
  have hb := Blk.new w 42 #[.int .u32 0, .int .u32 z]
  go_enter Tryd.func12, Tryd.ntmps12
  go_wp2_with fail
  exact bodyPost_ret (v := .agg #[.int .u32 0, .int .u32 z]) (results_cell_row (d := _) Tryd.results12 _ _ w.heap.size 42 _ (0, 0) (by rfl) hb Tryd.underlying42 rfl (by kernel_rfl)) rfl ⟨rfl, gb_alloc (gb_refl _ _) _⟩
theorem made_raw (e0 : ByteArray) (n i : Nat) (hi : i < n) : (madeCells (Value.agg (zsym e0)).cells (n * 10))[i * 10 + 6]? = some (.int .u32 0) ∧ (madeCells (Value.agg (zsym e0)).cells (n * 10))[i * 10 + 7]? = some (.int .u16 0) := by
  have h1 : (i * 10 + 6) % 10 = 6 := by omega
  have h2 : (i * 10 + 7) % 10 = 7 := by omega
  constructor <;> (rw [Array.getElem?_eq_getElem (by simp [madeCells, zsym, Value.cells]; omega)]; simp [madeCells, zsym, Value.cells, h1, h2])
theorem info53 : (Tryd.prog.info? 53).map (fun i => (i.zero, i.size, i.bytes)) = some (some (.slice none 0 0), 1, 24) := by kernel_rfl
theorem make30 (w : World) : (Instr.makeSlice 30 (.int .i64 1) (.int .i64 1)).run Tryd.prog w = .ok (.slice (some ⟨w.heap.size, 0, none⟩) 1 1) (w.alloc (.cells #[.slice none 0 0] 53)) := by
  have h := run_make_row' (P := Tryd.prog) 30 53 (.slice none 0 0) 24 Tryd.underlying30 info53 rfl .i64 .i64 1 (by decide) (by decide) w
  have e : madeCells #[Value.slice none 0 0] 1 = #[.slice none 0 0] := by apply Array.ext'; simp [madeCells]
  rw [e] at h
  exact h
set_option maxHeartbeats 4000000 in
set_option maxRecDepth 100000 in
theorem build_any (a0 a1 a2 a3 : Option Addr) (n p0 p1 p2 p3 : Nat) (ts : List ByteArray) (ks ls ns : List Int) (h0 : ts.length = n) (h1 : ks.length = n) (h2 : ls.length = n) (h3 : ns.length = n) (k8 : B8 ks) (l32 : B32 ls) (s32 : B32 ns) (hn : n ≤ 65536)
    (w : World) (hin : InS w a0 ts) (hi1 : In .u8 w a1 ks) (hi2 : In .u32 w a2 ls) (hi3 : In .u32 w a3 ns) :
    Calls Tryd.prog 9 #[.slice a0 n p0, .slice a1 n p1, .slice a2 n p2, .slice a3 n p3] w fun e w' => ∃ S T, e = .returned (.agg #[.slice (some ⟨T, 0, none⟩) 1 1]) ∧ w.heap.size ≤ S ∧ S < T ∧ Bt w' S n n ts ks ls ns ∧ Blk w' T 53 #[.slice (some ⟨S, 0, none⟩) n n] ∧ Below w.heap.size w w' := by
  have H := Lib.hid (And.intro hin (And.intro hi1 (And.intro hi2 (And.intro hi3 (And.intro k8 (And.intro l32 s32))))))
  clear hin hi1 hi2 hi3 k8 l32 s32
  have hz : (zeroValue 32).run Tryd.prog w = .ok (.agg #[.slice none 0 0]) w := by kernel_rfl
  obtain ⟨Y, hY⟩ : ∃ Y, w.heap.size = Y := ⟨_, rfl⟩
  go_enter Tryd.func9, Tryd.ntmps9
  go_upto_region 3 with (at_make; obtain ⟨i0, hi0, hz0, hz1, hz2⟩ := info_parts info63; refine wpList_make_full (w.alloc (.cells #[.slice none 0 0] 32)) rfl _ _ 53 rfl w.heap.size 63 i0 _ 10 Tryd.underlying53 hi0 hz0 hz1 .i64 .i64 n n n rfl rfl rfl rfl (by rw [hz2]; omega) (by unfold maxLen; omega) (by simp) ?_; intro w2 ho2 hg2; have HM := Lib.hid (And.intro ho2 hg2); clear ho2 hg2)
  obtain ⟨S, hS⟩ : ∃ S, Y + 1 = S := ⟨_, rfl⟩
  have H0 : Hid (S = w.heap.size + 1 ∧ Bt w2 S n 0 ts ks ls ns ∧ Below w.heap.size w w2 ∧ Blk w2 Y 32 #[.slice none 0 0]) := Lib.hid (by
    have hg : w.grownBy w2 none := gb_trans (gb_alloc (gb_refl w none) _) HM.out.2
    have hy : Blk w2 Y 32 #[.slice none 0 0] := by
      have := (Blk.new w 32 #[.slice none 0 0]).gb HM.out.2 (by simp)
      rw [hY] at this
      exact this
    refine ⟨by omega, ?_, (Below.refl _ _).grown hg (Nat.le_refl _) (fun k hk => by cases hk), hy⟩
    rcases HM.out.1.2 with ⟨h, hm⟩ | ⟨g, cap, cur, hv, _, hh, _, _, hcs, htk⟩
    · cases h
    · simp only [Value.slice.injEq, Option.some.injEq, Addr.mk.injEq, and_true, true_and] at hv
      obtain ⟨rfl, rfl⟩ := hv
      have hh' : Blk w2 S 63 cur := by
        have e : (w.alloc (Obj.cells #[Value.slice none 0 0] 32)).heap.size = S := by simp; omega
        rw [e] at hh
        exact hh
      have hcur : cur = madeCells (Value.agg (zsym ByteArray.empty)).cells (n * 10) := by
        apply Array.ext'
        rw [← htk, List.take_of_length_le (by simp [hcs])]
      refine ⟨cur, hh', by omega, fun i hi => by omega, fun i _ hi => ?_⟩
      rw [hcur]
      exact made_raw _ n i hi)
  clear HM
  rw [hS]
  clear hS
  go_wp2_with fail
  go_loopg [11] n (fun k a wx => ∃ i : Nat, a = .int .i64 (i : Int) ∧ i ≤ n ∧ n - i ≤ k ∧ Hid (S = w.heap.size + 1 ∧ Bt wx S n i ts ks ls ns ∧ Below w.heap.size w wx ∧ Blk wx Y 32 #[.slice none 0 0]))
  case atStart => exact ⟨0, rfl, by omega, by omega, H0⟩
  case round =>
    obtain ⟨i, rfl, hi, hk, HB⟩ := hrel
    obtain ⟨wz, rfl⟩ : ∃ wz : World, wz = wr := ⟨_, rfl⟩
    rcases (show n = i ∨ i < n by omega) with he | hlt
    · obtain rfl := he
      have hmk := make30 wz
      have hy := HB.out.2.2.2
      have hbS := HB.out.2.1.out
      obtain ⟨T, hT⟩ : ∃ T, wz.heap.size = T := ⟨_, rfl⟩
      have hb1 := Blk.new wz 53 #[.slice (some ⟨S, 0, none⟩) n n]
      rw [hT] at hb1
      have hyl := hy.lt
      have hy1 : Blk (wz.alloc (.cells #[.slice (some ⟨S, 0, none⟩) n n] 53)) Y 32 #[.slice none 0 0] := hy.alloc _
      have y0 := hy1.cell 0
      have g0 := hy1.free 0
      have HF : Hid (Blk ((wz.alloc (.cells #[.slice (some ⟨S, 0, none⟩) n n] 53)).setCell ⟨Y, 0, none⟩ (.slice (some ⟨T, 0, none⟩) 1 1)) Y 32 #[.slice (some ⟨T, 0, none⟩) 1 1] ∧
          Blk ((wz.alloc (.cells #[.slice (some ⟨S, 0, none⟩) n n] 53)).setCell ⟨Y, 0, none⟩ (.slice (some ⟨T, 0, none⟩) 1 1)) T 53 #[.slice (some ⟨S, 0, none⟩) n n]) := Lib.hid ⟨hy1.set 0 _, blk_set_ne hb1 (by omega) 0 none _⟩
      obtain ⟨cs, q1, q2, q3, q4⟩ := hbS
      have hSl := q1.lt
      have HG := Lib.hid (And.intro q1 (And.intro q2 (And.intro q3 (And.intro q4 (And.intro hyl (And.intro hT hSl))))))
      clear hy q1 q2 q3 q4 hb1 hy1
      go_wp2_with fail
      have hYl := HG.out.2.2.2.2.1
      have hTl := HG.out.2.2.2.2.2.1
      have hSl := HG.out.2.2.2.2.2.2
      have hSd := HB.out.1
      refine bodyPost_ret (v := .agg #[.slice (some ⟨T, 0, none⟩) 1 1]) (results_cell_row (d := _) Tryd.results9 _ _ Y 32 _ (0, 0) (by rfl) HF.out.1 Tryd.underlying32 rfl (by kernel_rfl)) rfl ?_
      refine ⟨S, T, rfl, by omega, by omega, ⟨cs, blk_set_ne (HG.out.1.alloc _) (by omega) _ _ _, HG.out.2.1, HG.out.2.2.1, HG.out.2.2.2.1⟩, HF.out.2, ?_⟩
      have hbw := HB.out.2.2.1
      have hbs := hbw.size
      exact (hbw.alloc hbs _).setCell (p := ⟨Y, 0, none⟩) (show w.heap.size ≤ Y by omega) _
    · obtain ⟨b0, o0, rfl, lt0, hc0⟩ := H.out.1.at (i := i) (by omega)
      obtain ⟨b1, o1, rfl, lt1, hc1⟩ := H.out.2.1.at (i := i) (by omega)
      obtain ⟨b2, o2, rfl, lt2, hc2⟩ := H.out.2.2.1.at (i := i) (by omega)
      obtain ⟨b3, o3, rfl, lt3, hc3⟩ := H.out.2.2.2.1.at (i := i) (by omega)
      have hk8 := H.out.2.2.2.2.1 i (by omega)
      have hl32 := H.out.2.2.2.2.2.1 i (by omega)
      have hs32 := H.out.2.2.2.2.2.2 i (by omega)
      obtain ⟨t, ht⟩ : ∃ t, tth ts i = t := ⟨_, rfl⟩
      obtain ⟨k, hkk⟩ : ∃ k, nth ks i = k := ⟨_, rfl⟩
      obtain ⟨l, hll⟩ : ∃ l, nth ls i = l := ⟨_, rfl⟩
      obtain ⟨s, hss⟩ : ∃ s, nth ns i = s := ⟨_, rfl⟩
      rw [ht] at hc0
      rw [hkk] at hc1 hk8
      rw [hll] at hc2 hl32
      rw [hss] at hc3 hs32
      have HV := Lib.hid (And.intro ht (And.intro hkk (And.intro hll hss)))
      have HC := Lib.hid (And.intro hc0 (And.intro hc1 (And.intro hc2 (And.intro hc3 (And.intro lt0 (And.intro lt1 (And.intro lt2 lt3)))))))
      clear ht hkk hll hss hc0 hc1 hc2 hc3
      obtain ⟨cs, q1, q2, q3, q4⟩ := HB.out.2.1.out
      have HQ := Lib.hid (And.intro q2 (And.intro q3 q4))
      have n0 := (HB.out.2.2.1.cell (p := ⟨b0, o0 + i, none⟩) lt0).trans HC.out.1
      obtain ⟨v1, k1⟩ := q1.has (i := i * 10 + 1) (by omega)
      have f1 := q1.free (i * 10 + 1)
      have hSl := q1.lt
      have HX := Lib.hid q1
      clear q1 q2 q3 q4
      go_upto_region 9 with fail
      obtain ⟨w1, hw1⟩ : ∃ w1, wz.setCell ⟨S, i * 10 + 1, none⟩ (.string t) = w1 := ⟨_, rfl⟩
      have hb1 := HX.out.set (i * 10 + 1) (.string t)
      have hg1 : wz.grownBy (wz.setCell ⟨S, i * 10 + 1, none⟩ (.string t)) (some S) := gb_set (gb_refl _ _) _ _ _
      rw [hw1] at hb1 hg1 ⊢
      clear hw1 n0 k1 f1
      have n1 : w1.cell? ⟨b1, o1 + i, none⟩ = some (.int .u8 k) := (World.cell?_of_block (w := wz) (hg1.block b1 (by have := HB.out.2.2.1.size; have := HC.out.2.2.2.2.2.1; omega) (fun e => by have := Option.some.inj e; have := HC.out.2.2.2.2.2.1; have := HB.out.1; omega))).trans ((HB.out.2.2.1.cell (p := ⟨b1, o1 + i, none⟩) lt1).trans HC.out.2.1)
      obtain ⟨v1, k1⟩ := hb1.has (i := i * 10 + 8) (by have := HQ.out.1; simp; omega)
      have f1 := hb1.free (i * 10 + 8)
      have HX1 := Lib.hid (And.intro hb1 hg1)
      clear hb1 hg1
      have HKD := Lib.hid (fun (w : World) => kind_any k hk8.1 hk8.2 w)
      go_upto_region 10 with (go_at_call 20; refine (HKD.out _).mono ?_; rintro e w' ⟨rfl, rfl⟩)
      obtain ⟨w2', hw2⟩ : ∃ w2', w'.setCell ⟨S, i * 10 + 8, none⟩ (.int .u8 (kindOf k)) = w2' := ⟨_, rfl⟩
      have hb2 := HX1.out.1.set (i * 10 + 8) (.int .u8 (kindOf k))
      have hg2 : wz.grownBy (w'.setCell ⟨S, i * 10 + 8, none⟩ (.int .u8 (kindOf k))) (some S) := gb_set HX1.out.2 _ _ _
      rw [hw2] at hb2 hg2 ⊢
      clear hw2 n1 k1 f1 HX1
      obtain ⟨v2, k2⟩ := hb2.has (i := i * 10 + 2) (by have := HQ.out.1; simp; omega)
      have f2 := hb2.free (i * 10 + 2)
      have hb3 := hb2.set (i * 10 + 2) (.int .u32 4294967295)
      have hb4 := hb3.set (i * 10 + 3) (.int .u32 4294967295)
      have HX2 := Lib.hid (And.intro hb2 hg2)
      have HI2 := Lib.hid (fun (w : World) => inv_any w)
      clear hb2 hg2 k2 f2 hb3 hb4
      go_upto_region 11 with (go_at_call 21; refine (HI2.out _).mono ?_; rintro e w3 ⟨rfl, hg3⟩; have hb3 := HX2.out.1.gb hg3 (by simp); obtain ⟨v2, k2⟩ := hb3.has (i := i * 10 + 2) (by have := HQ.out.1; simp; omega); have f2 := hb3.free (i * 10 + 2); have hb4 := hb3.set (i * 10 + 2) (.int .u32 4294967295); obtain ⟨v3, k3⟩ := hb4.has (i := i * 10 + 2 + 1) (by have := HQ.out.1; simp; omega); have f3 := hb4.free (i * 10 + 2 + 1); have HX3 := Lib.hid (And.intro (hb4.set (i * 10 + 2 + 1) (.int .u32 4294967295)) (gb_set (gb_set (gb_trans HX2.out.2 (gb_none hg3)) (i * 10 + 2) none (.int .u32 4294967295)) (i * 10 + 2 + 1) none (.int .u32 4294967295))); clear hg3 hb3 hb4)
      obtain ⟨w4, hw4⟩ : ∃ w4, (w3.setCell ⟨S, i * 10 + 2, none⟩ (.int .u32 4294967295)).setCell ⟨S, i * 10 + 2 + 1, none⟩ (.int .u32 4294967295) = w4 := ⟨_, rfl⟩
      rw [hw4] at HX3 ⊢
      clear hw4 k2 f2 k3 f3 HX2
      have hcell : ∀ (b o : Nat) (v : Value), b < w.heap.size → w.cell? ⟨b, o, none⟩ = some v → w4.cell? ⟨b, o, none⟩ = some v := fun b o v hb hc =>
        (World.cell?_of_block (w := wz) (HX3.out.2.block b (by have := HB.out.2.2.1.size; omega) (fun e => by have := Option.some.inj e; have := HB.out.1; omega))).trans ((HB.out.2.2.1.cell (p := ⟨b, o, none⟩) hb).trans hc)
      have n2 := hcell b2 _ _ HC.out.2.2.2.2.2.2.1 HC.out.2.2.1
      have HCL := Lib.hid hcell
      clear hcell
      have hwi : IntKind.u32.wrap (i : Int) = i := by rw [IntKind.wrap_u32]; omega
      have hwn : IntKind.u32.wrap (n : Int) = n := by rw [IntKind.wrap_u32]; omega
      have HW2 := Lib.hid (And.intro hwi hwn)
      have hfin : ∀ (w5 : World) (cs5 : Array Value), Blk w5 S 63 cs5 → wz.grownBy w5 (some S) → cs5.size = 10 * n → (∀ j, (j < i * 10 ∨ i * 10 + 10 ≤ j) → cs5[j]? = cs[j]?) → Row cs5 n ts ks ls ns i →
          Hid (S = w.heap.size + 1 ∧ Bt w5 S n (i + 1) ts ks ls ns ∧ Below w.heap.size w w5 ∧ Blk w5 Y 32 #[.slice none 0 0]) := fun w5 cs5 q1 q2 q3 q4 q5 =>
        Lib.hid ⟨HB.out.1, Bt.step (w := wz) q1 q3 HQ.out.2.1 HQ.out.2.2 q4 q5, HB.out.2.2.1.grown q2 HB.out.2.2.1.size (fun k hk => by have := Option.some.inj hk; have := HB.out.1; omega), HB.out.2.2.2.gb q2 (fun e => by have := Option.some.inj e; have := HB.out.1; omega)⟩
      have HFIN := Lib.hid hfin
      clear hfin
      have hbf : (fwd ls n i = true ∧ (i : Int) < l ∧ l < (n : Int)) ∨ (fwd ls n i = false ∧ ¬ ((i : Int) < l ∧ l < (n : Int))) := by
        unfold fwd
        rw [HV.out.2.2.1]
        by_cases g1 : (i : Int) < l <;> by_cases g2 : l < (n : Int) <;> simp [g1, g2]
      rcases hbf with ⟨hf1, g1, g2⟩ | ⟨hf1, g1⟩
      · have d1 : decide ((i : Int) < l) = true := by simp [g1]
        have d2 : decide (l < (n : Int)) = true := by simp [g2]
        have HRF := Lib.hid (fun (w : World) => ref_any l w)
        have HF1 := Lib.hid hf1
        clear hf1 g1 g2
        go_upto_region 13 with (go_at_call 12; refine (HRF.out _).mono ?_; rintro e w5 ⟨rfl, hg5⟩; have hb3 := HX3.out.1.gb hg5 (by simp); obtain ⟨v2, k2⟩ := hb3.has (i := i * 10 + 2) (by have := HQ.out.1; simp; omega); have f2 := hb3.free (i * 10 + 2); have hb4 := hb3.set (i * 10 + 2) (.int .u32 0); obtain ⟨v3, k3⟩ := hb4.has (i := i * 10 + 2 + 1) (by have := HQ.out.1; simp; omega); have f3 := hb4.free (i * 10 + 2 + 1); have HX5 := Lib.hid (And.intro (hb4.set (i * 10 + 2 + 1) (.int .u32 l)) (gb_set (gb_set (gb_trans HX3.out.2 (gb_none hg5)) (i * 10 + 2) none (.int .u32 0)) (i * 10 + 2 + 1) none (.int .u32 l))); clear hg5 hb3 hb4)
        obtain ⟨w6, hw6⟩ : ∃ w6, (w5.setCell ⟨S, i * 10 + 2, none⟩ (.int .u32 0)).setCell ⟨S, i * 10 + 2 + 1, none⟩ (.int .u32 l) = w6 := ⟨_, rfl⟩
        rw [hw6] at HX5 ⊢
        clear hw6
        have n3 : w6.cell? ⟨b3, o3 + i, none⟩ = some (.int .u32 s) := (World.cell?_of_block (w := wz) (HX5.out.2.block b3 (by have := HB.out.2.2.1.size; have := HC.out.2.2.2.2.2.2.2; omega) (fun e => by have := Option.some.inj e; have := HC.out.2.2.2.2.2.2.2; have := HB.out.1; omega))).trans ((HB.out.2.2.1.cell (p := ⟨b3, o3 + i, none⟩) HC.out.2.2.2.2.2.2.2).trans HC.out.2.2.2.1)
        by_cases hs0 : s = 0
        · have d3 : (s == 0) = true := by simp [hs0]
          have HS0 := Lib.hid hs0
          clear hs0 hwi hwn
          go_wp2_with fail
          go_roundg (gk - 1)
          case measure => omega
          case rel =>
            have hs0 := HS0.out
            exact ⟨i + 1, by go_num, by omega, by omega, HFIN.out w6 _ HX5.out.1 HX5.out.2 (by have := HQ.out.1; simp; omega) (fun j hj => by simp only [Array.getElem?_setIfInBounds]; repeat rw [if_neg (by omega)]) (by
                    have hq := HQ.out.1
                    have z1 : i * 10 + 1 < cs.size := by omega
                    have z2 : i * 10 + 2 < cs.size := by omega
                    have z3 : i * 10 + 3 < cs.size := by omega
                    have z6 : i * 10 + 6 < cs.size := by omega
                    have z8 : i * 10 + 8 < cs.size := by omega
                    have hr7 := (HQ.out.2.2 i (Nat.le_refl _) hlt).2
                    have hr6 := (HQ.out.2.2 i (Nat.le_refl _) hlt).1
                    exact ⟨by rw [HV.out.1]; simp [Array.getElem?_setIfInBounds, z1], by rw [if_pos HF1.out]; simp [Array.getElem?_setIfInBounds, z2], by rw [if_pos HF1.out, HV.out.2.2.1]; simp [Array.getElem?_setIfInBounds, z3], by rw [HV.out.2.2.2]; simp [Array.getElem?_setIfInBounds, hr6, hs0], by simp [Array.getElem?_setIfInBounds, hr7], by rw [HV.out.2.1]; simp [Array.getElem?_setIfInBounds, z8]⟩)⟩
        · have d3 : (s == 0) = false := by simp [hs0]
          have HS0 := Lib.hid hs0
          have hw5 : IntKind.u32.wrap (s - 1) = s - 1 := by rw [IntKind.wrap_u32]; omega
          have HMK := Lib.hid (fun (w : World) => mk_any (s - 1) (by omega) (by omega) w)
          clear hs0 hwi hwn
          go_wp2_with (go_at_call 22; refine (HMK.out _).mono ?_; rintro e w7 ⟨rfl, hg7⟩; have hb7 := HX5.out.1.gb hg7 (by simp); obtain ⟨v6, k6⟩ := hb7.has (i := i * 10 + 6) (by have := HQ.out.1; simp; omega); have f6 := hb7.free (i * 10 + 6); have hl7 := hb7.lt; have HX7 := Lib.hid (And.intro (hb7.set (i * 10 + 6) (.int .u32 (4294967295 - (s - 1)))) (gb_set (gb_trans HX5.out.2 (gb_none hg7)) (i * 10 + 6) none (.int .u32 (4294967295 - (s - 1))))); clear hg7 hb7)
          go_roundg (gk - 1)
          case measure => clear hw5; omega
          case rel =>
            have hs0 := HS0.out
            clear hw5
            exact ⟨i + 1, by go_num, by omega, by omega, HFIN.out _ _ HX7.out.1 HX7.out.2 (by have := HQ.out.1; simp; omega) (fun j hj => by simp only [Array.getElem?_setIfInBounds]; repeat rw [if_neg (by omega)]) (by
                    have hq := HQ.out.1
                    have z1 : i * 10 + 1 < cs.size := by omega
                    have z2 : i * 10 + 2 < cs.size := by omega
                    have z3 : i * 10 + 3 < cs.size := by omega
                    have z6 : i * 10 + 6 < cs.size := by omega
                    have z8 : i * 10 + 8 < cs.size := by omega
                    have hr7 := (HQ.out.2.2 i (Nat.le_refl _) hlt).2
                    have hr6 := (HQ.out.2.2 i (Nat.le_refl _) hlt).1
                    exact ⟨by rw [HV.out.1]; simp [Array.getElem?_setIfInBounds, z1], by rw [if_pos HF1.out]; simp [Array.getElem?_setIfInBounds, z2], by rw [if_pos HF1.out, HV.out.2.2.1]; simp [Array.getElem?_setIfInBounds, z3], by rw [HV.out.2.2.2]; simp [Array.getElem?_setIfInBounds, z6, hs0], by simp [Array.getElem?_setIfInBounds, hr7], by rw [HV.out.2.1]; simp [Array.getElem?_setIfInBounds, z8]⟩)⟩
      · have HF1 := Lib.hid (show ¬ fwd ls n i = true by simp [hf1])
        by_cases g2 : (i : Int) < l
        · have d1 : decide ((i : Int) < l) = true := by simp [g2]
          have d2 : decide (l < (n : Int)) = false := by simp; omega
          have HFB := Lib.hid hf1
          clear hf1 g1 g2
          go_upto_region 13 with fail
          obtain ⟨w6, hw6⟩ : ∃ w6, w4 = w6 := ⟨_, rfl⟩
          rw [hw6] at HX3 ⊢
          clear hw6
          have n3 : w6.cell? ⟨b3, o3 + i, none⟩ = some (.int .u32 s) := (World.cell?_of_block (w := wz) (HX3.out.2.block b3 (by have := HB.out.2.2.1.size; have := HC.out.2.2.2.2.2.2.2; omega) (fun e => by have := Option.some.inj e; have := HC.out.2.2.2.2.2.2.2; have := HB.out.1; omega))).trans ((HB.out.2.2.1.cell (p := ⟨b3, o3 + i, none⟩) HC.out.2.2.2.2.2.2.2).trans HC.out.2.2.2.1)
          by_cases hs0 : s = 0
          · have d3 : (s == 0) = true := by simp [hs0]
            have HS0 := Lib.hid hs0
            clear hs0 hwi hwn
            go_wp2_with fail
            go_roundg (gk - 1)
            case measure => omega
            case rel =>
              have hs0 := HS0.out
              exact ⟨i + 1, by go_num, by omega, by omega, HFIN.out w6 _ HX3.out.1 HX3.out.2 (by have := HQ.out.1; simp; omega) (fun j hj => by simp only [Array.getElem?_setIfInBounds]; repeat rw [if_neg (by omega)]) (by
                      have hq := HQ.out.1
                      have z1 : i * 10 + 1 < cs.size := by omega
                      have z2 : i * 10 + 2 < cs.size := by omega
                      have z3 : i * 10 + 3 < cs.size := by omega
                      have z6 : i * 10 + 6 < cs.size := by omega
                      have z8 : i * 10 + 8 < cs.size := by omega
                      have hr7 := (HQ.out.2.2 i (Nat.le_refl _) hlt).2
                      have hr6 := (HQ.out.2.2 i (Nat.le_refl _) hlt).1
                      exact ⟨by rw [HV.out.1]; simp [Array.getElem?_setIfInBounds, z1], by rw [if_neg HF1.out]; simp [Array.getElem?_setIfInBounds, z2], by rw [if_neg HF1.out]; simp [Array.getElem?_setIfInBounds, z3], by rw [HV.out.2.2.2]; simp [Array.getElem?_setIfInBounds, hr6, hs0], by simp [Array.getElem?_setIfInBounds, hr7], by rw [HV.out.2.1]; simp [Array.getElem?_setIfInBounds, z8]⟩)⟩
          · have d3 : (s == 0) = false := by simp [hs0]
            have HS0 := Lib.hid hs0
            have hw5 : IntKind.u32.wrap (s - 1) = s - 1 := by rw [IntKind.wrap_u32]; omega
            have HMK := Lib.hid (fun (w : World) => mk_any (s - 1) (by omega) (by omega) w)
            clear hs0 hwi hwn
            go_wp2_with (go_at_call 22; refine (HMK.out _).mono ?_; rintro e w7 ⟨rfl, hg7⟩; have hb7 := HX3.out.1.gb hg7 (by simp); obtain ⟨v6, k6⟩ := hb7.has (i := i * 10 + 6) (by have := HQ.out.1; simp; omega); have f6 := hb7.free (i * 10 + 6); have hl7 := hb7.lt; have HX7 := Lib.hid (And.intro (hb7.set (i * 10 + 6) (.int .u32 (4294967295 - (s - 1)))) (gb_set (gb_trans HX3.out.2 (gb_none hg7)) (i * 10 + 6) none (.int .u32 (4294967295 - (s - 1))))); clear hg7 hb7)
            go_roundg (gk - 1)
            case measure => clear hw5; omega
            case rel =>
              have hs0 := HS0.out
              clear hw5
              exact ⟨i + 1, by go_num, by omega, by omega, HFIN.out _ _ HX7.out.1 HX7.out.2 (by have := HQ.out.1; simp; omega) (fun j hj => by simp only [Array.getElem?_setIfInBounds]; repeat rw [if_neg (by omega)]) (by
                      have hq := HQ.out.1
                      have z1 : i * 10 + 1 < cs.size := by omega
                      have z2 : i * 10 + 2 < cs.size := by omega
                      have z3 : i * 10 + 3 < cs.size := by omega
                      have z6 : i * 10 + 6 < cs.size := by omega
                      have z8 : i * 10 + 8 < cs.size := by omega
                      have hr7 := (HQ.out.2.2 i (Nat.le_refl _) hlt).2
                      have hr6 := (HQ.out.2.2 i (Nat.le_refl _) hlt).1
                      exact ⟨by rw [HV.out.1]; simp [Array.getElem?_setIfInBounds, z1], by rw [if_neg HF1.out]; simp [Array.getElem?_setIfInBounds, z2], by rw [if_neg HF1.out]; simp [Array.getElem?_setIfInBounds, z3], by rw [HV.out.2.2.2]; simp [Array.getElem?_setIfInBounds, z6, hs0], by simp [Array.getElem?_setIfInBounds, hr7], by rw [HV.out.2.1]; simp [Array.getElem?_setIfInBounds, z8]⟩)⟩
        · have d1 : decide ((i : Int) < l) = false := by simp; omega
          clear hf1 g1 g2
          go_upto_region 13 with fail
          obtain ⟨w6, hw6⟩ : ∃ w6, w4 = w6 := ⟨_, rfl⟩
          rw [hw6] at HX3 ⊢
          clear hw6
          have n3 : w6.cell? ⟨b3, o3 + i, none⟩ = some (.int .u32 s) := (World.cell?_of_block (w := wz) (HX3.out.2.block b3 (by have := HB.out.2.2.1.size; have := HC.out.2.2.2.2.2.2.2; omega) (fun e => by have := Option.some.inj e; have := HC.out.2.2.2.2.2.2.2; have := HB.out.1; omega))).trans ((HB.out.2.2.1.cell (p := ⟨b3, o3 + i, none⟩) HC.out.2.2.2.2.2.2.2).trans HC.out.2.2.2.1)
          by_cases hs0 : s = 0
          · have d3 : (s == 0) = true := by simp [hs0]
            have HS0 := Lib.hid hs0
            clear hs0 hwi hwn
            go_wp2_with fail
            go_roundg (gk - 1)
            case measure => omega
            case rel =>
              have hs0 := HS0.out
              exact ⟨i + 1, by go_num, by omega, by omega, HFIN.out w6 _ HX3.out.1 HX3.out.2 (by have := HQ.out.1; simp; omega) (fun j hj => by simp only [Array.getElem?_setIfInBounds]; repeat rw [if_neg (by omega)]) (by
                      have hq := HQ.out.1
                      have z1 : i * 10 + 1 < cs.size := by omega
                      have z2 : i * 10 + 2 < cs.size := by omega
                      have z3 : i * 10 + 3 < cs.size := by omega
                      have z6 : i * 10 + 6 < cs.size := by omega
                      have z8 : i * 10 + 8 < cs.size := by omega
                      have hr7 := (HQ.out.2.2 i (Nat.le_refl _) hlt).2
                      have hr6 := (HQ.out.2.2 i (Nat.le_refl _) hlt).1
                      exact ⟨by rw [HV.out.1]; simp [Array.getElem?_setIfInBounds, z1], by rw [if_neg HF1.out]; simp [Array.getElem?_setIfInBounds, z2], by rw [if_neg HF1.out]; simp [Array.getElem?_setIfInBounds, z3], by rw [HV.out.2.2.2]; simp [Array.getElem?_setIfInBounds, hr6, hs0], by simp [Array.getElem?_setIfInBounds, hr7], by rw [HV.out.2.1]; simp [Array.getElem?_setIfInBounds, z8]⟩)⟩
          · have d3 : (s == 0) = false := by simp [hs0]
            have HS0 := Lib.hid hs0
            have hw5 : IntKind.u32.wrap (s - 1) = s - 1 := by rw [IntKind.wrap_u32]; omega
            have HMK := Lib.hid (fun (w : World) => mk_any (s - 1) (by omega) (by omega) w)
            clear hs0 hwi hwn
            go_wp2_with (go_at_call 22; refine (HMK.out _).mono ?_; rintro e w7 ⟨rfl, hg7⟩; have hb7 := HX3.out.1.gb hg7 (by simp); obtain ⟨v6, k6⟩ := hb7.has (i := i * 10 + 6) (by have := HQ.out.1; simp; omega); have f6 := hb7.free (i * 10 + 6); have hl7 := hb7.lt; have HX7 := Lib.hid (And.intro (hb7.set (i * 10 + 6) (.int .u32 (4294967295 - (s - 1)))) (gb_set (gb_trans HX3.out.2 (gb_none hg7)) (i * 10 + 6) none (.int .u32 (4294967295 - (s - 1))))); clear hg7 hb7)
            go_roundg (gk - 1)
            case measure => clear hw5; omega
            case rel =>
              have hs0 := HS0.out
              clear hw5
              exact ⟨i + 1, by go_num, by omega, by omega, HFIN.out _ _ HX7.out.1 HX7.out.2 (by have := HQ.out.1; simp; omega) (fun j hj => by simp only [Array.getElem?_setIfInBounds]; repeat rw [if_neg (by omega)]) (by
                      have hq := HQ.out.1
                      have z1 : i * 10 + 1 < cs.size := by omega
                      have z2 : i * 10 + 2 < cs.size := by omega
                      have z3 : i * 10 + 3 < cs.size := by omega
                      have z6 : i * 10 + 6 < cs.size := by omega
                      have z8 : i * 10 + 8 < cs.size := by omega
                      have hr7 := (HQ.out.2.2 i (Nat.le_refl _) hlt).2
                      have hr6 := (HQ.out.2.2 i (Nat.le_refl _) hlt).1
                      exact ⟨by rw [HV.out.1]; simp [Array.getElem?_setIfInBounds, z1], by rw [if_neg HF1.out]; simp [Array.getElem?_setIfInBounds, z2], by rw [if_neg HF1.out]; simp [Array.getElem?_setIfInBounds, z3], by rw [HV.out.2.2.2]; simp [Array.getElem?_setIfInBounds, z6, hs0], by simp [Array.getElem?_setIfInBounds, hr7], by rw [HV.out.2.1]; simp [Array.getElem?_setIfInBounds, z8]⟩)⟩
end Go.Proofs.YtggepefjodgcgaaDoor
