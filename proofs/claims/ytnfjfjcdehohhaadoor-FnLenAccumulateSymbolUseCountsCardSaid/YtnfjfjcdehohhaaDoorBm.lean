/-
  The symbol table that the law lays: zzBuild. No statement of the seat is proved here.
-/
import Derived.Test.YtnfjfjcdehohhaaDoorZf
import Derived.Deep.OwnRows
namespace Go.Proofs.YtnfjfjcdehohhaaDoor
open Go.RowKit
set_option linter.unusedVariables false
set_option linter.unusedSimpArgs false

theorem Blk.has {w : World} {S : Nat} {t : TypeId} {cs : Array Value} (h : Blk w S t cs) {i : Nat} (hi : i < cs.size) : ∃ u, w.cell? ⟨S, i, none⟩ = some u := ⟨cs[i], by rw [h.cell, Array.getElem?_eq_getElem hi]⟩
def zsym (e0 : ByteArray) : Array Value := #[.pointer none, .string e0, .int .u32 0, .int .u32 0, .int .u32 0, .int .u32 0, .int .u32 0, .int .u16 0, .int .u8 0, .int .u8 0]
theorem info63 : (Tryd.prog.info? 65).map (fun i => (i.zero, i.size, i.bytes)) = some (some (.agg (zsym ByteArray.empty)), 10, 48) := by kernel_rfl
/-- symbol i, laid -/
structure Row (cs : Array Value) (ks ns : List Int) (i : Nat) : Prop where
  alias : cs[i * 10]? = some (.pointer none)
  l0 : cs[i * 10 + 2]? = some (.int .u32 4294967295)
  l1 : cs[i * 10 + 3]? = some (.int .u32 4294967295)
  nest : cs[i * 10 + 6]? = some (.int .u32 (if nth ns i = 0 then 0 else 4294967295 - (nth ns i - 1)))
  flags : cs[i * 10 + 7]? = some (.int .u16 0)
  kind : cs[i * 10 + 8]? = some (.int .u8 (kindOf (nth ks i)))
/-- symbol i, not laid yet -/
def Raw (cs : Array Value) (i : Nat) : Prop := cs[i * 10 + 6]? = some (.int .u32 0) ∧ cs[i * 10 + 7]? = some (.int .u16 0) ∧ cs[i * 10]? = some (.pointer none)
structure Bt (w : World) (S n k : Nat) (ks ns : List Int) : Prop where
  out : ∃ cs, Blk w S 65 cs ∧ cs.size = 10 * n ∧ (∀ i, i < k → Row cs ks ns i) ∧ ∀ i, k ≤ i → i < n → Raw cs i
/-- the cells of symbol k are laid in some order: what came is a table with one symbol more -/
theorem Bt.step {w' : World} {S n k : Nat} {ks ns : List Int} {cs cs' : Array Value} (hb : Blk w' S 65 cs') (hsz : cs'.size = 10 * n) (h1 : ∀ i, i < k → Row cs ks ns i) (h2 : ∀ i, k ≤ i → i < n → Raw cs i)
    (ho : ∀ j, (j < k * 10 ∨ k * 10 + 10 ≤ j) → cs'[j]? = cs[j]?) (hr : Row cs' ks ns k) : Bt w' S n (k + 1) ks ns := by
  refine ⟨cs', hb, hsz, fun i hi => ?_, fun i hi hn => ?_⟩
  · by_cases e : i = k
    · subst e; exact hr
    · have h := h1 i (by omega)
      exact ⟨by rw [ho _ (by omega)]; exact h.alias, by rw [ho _ (by omega)]; exact h.l0, by rw [ho _ (by omega)]; exact h.l1, by rw [ho _ (by omega)]; exact h.nest, by rw [ho _ (by omega)]; exact h.flags, by rw [ho _ (by omega)]; exact h.kind⟩
  · have h := h2 i (by omega) hn
    exact ⟨by rw [ho _ (by omega)]; exact h.1, by rw [ho _ (by omega)]; exact h.2.1, by rw [ho _ (by omega)]; exact h.2.2⟩

set_option maxRecDepth 100000 in
theorem inv_any (w : World) : Calls Tryd.prog 18 #[] w fun e w' => e = .returned (.agg #[.int .u32 4294967295, .int .u32 4294967295]) ∧ w.grownBy w' none := by
  have hz : (zeroValue 42).run Tryd.prog w = .ok (.agg #[.int .u32 0, .int .u32 0]) w := by kernel_rfl
  have hb := Blk.new w 42 #[.int .u32 4294967295, .int .u32 4294967295]
  go_enter Tryd.func18, Tryd.ntmps18
  go_wp2_with fail
  exact bodyPost_ret (v := .agg #[.int .u32 4294967295, .int .u32 4294967295]) (results_cell_row (d := _) Tryd.results18 _ _ w.heap.size 42 _ (0, 0) (by rfl) hb Tryd.underlying42 rfl (by kernel_rfl)) rfl ⟨rfl, gb_alloc (gb_refl _ _) _⟩
set_option maxRecDepth 100000 in
theorem ref_any (z : Int) (w : World) : Calls Tryd.prog 11 #[.int .u32 z] w fun e w' => e = .returned (.agg #[.int .u32 0, .int .u32 z]) ∧ w.grownBy w' none := by
  have hz : (zeroValue 42).run Tryd.prog w = .ok (.agg #[.int .u32 0, .int .u32 0]) w := by kernel_rfl
  have hb := Blk.new w 42 #[.int .u32 0, .int .u32 z]
  go_enter Tryd.func11, Tryd.ntmps11
  go_wp2_with fail
  exact bodyPost_ret (v := .agg #[.int .u32 0, .int .u32 z]) (results_cell_row (d := _) Tryd.results11 _ _ w.heap.size 42 _ (0, 0) (by rfl) hb Tryd.underlying42 rfl (by kernel_rfl)) rfl ⟨rfl, gb_alloc (gb_refl _ _) _⟩
theorem made_raw (e0 : ByteArray) (n i : Nat) (hi : i < n) : Raw (madeCells (Value.agg (zsym e0)).cells (n * 10)) i := by
  have h1 : (i * 10 + 6) % 10 = 6 := by omega
  have h2 : (i * 10 + 7) % 10 = 7 := by omega
  have h3 : (i * 10) % 10 = 0 := by omega
  refine ⟨?_, ?_, ?_⟩
  · rw [Array.getElem?_eq_getElem (by simp [madeCells, zsym, Value.cells]; omega)]; simp [madeCells, zsym, Value.cells, h1]
  · rw [Array.getElem?_eq_getElem (by simp [madeCells, zsym, Value.cells]; omega)]; simp [madeCells, zsym, Value.cells, h2]
  · rw [Array.getElem?_eq_getElem (by simp [madeCells, zsym, Value.cells]; omega)]; simp [madeCells, zsym, Value.cells, h3]
theorem info53 : (Tryd.prog.info? 55).map (fun i => (i.zero, i.size, i.bytes)) = some (some (.slice none 0 0), 1, 24) := by kernel_rfl
theorem make30 (w : World) : (Instr.makeSlice 28 (.int .i64 1) (.int .i64 1)).run Tryd.prog w = .ok (.slice (some ⟨w.heap.size, 0, none⟩) 1 1) (w.alloc (.cells #[.slice none 0 0] 55)) := by
  have h := run_make_row' (P := Tryd.prog) 28 55 (.slice none 0 0) 24 Tryd.underlying28 info53 rfl .i64 .i64 1 (by decide) (by decide) w
  have e : madeCells #[Value.slice none 0 0] 1 = #[.slice none 0 0] := by apply Array.ext'; simp [madeCells]
  rw [e] at h
  exact h
set_option maxHeartbeats 4000000 in
set_option maxRecDepth 100000 in
theorem build_any (a1 a3 : Option Addr) (n p1 p3 : Nat) (ks ns : List Int) (h1 : ks.length = n) (h3 : ns.length = n) (k8 : B8 ks) (s32 : B32 ns) (hn : n ≤ 65536)
    (w : World) (hi1 : In .u8 w a1 ks) (hi3 : In .u32 w a3 ns) :
    Calls Tryd.prog 8 #[.slice none 0 0, .slice a1 n p1, .slice none 0 0, .slice a3 n p3] w fun e w' => ∃ S T, e = .returned (.agg #[.slice (some ⟨T, 0, none⟩) 1 1]) ∧ w.heap.size ≤ S ∧ S < T ∧ Bt w' S n n ks ns ∧ Blk w' T 55 #[.slice (some ⟨S, 0, none⟩) n n] ∧ Below w.heap.size w w' := by
  have H := Lib.hid (And.intro hi1 (And.intro hi3 (And.intro k8 s32)))
  clear hi1 hi3 k8 s32
  have hz : (zeroValue 30).run Tryd.prog w = .ok (.agg #[.slice none 0 0]) w := by kernel_rfl
  obtain ⟨Y, hY⟩ : ∃ Y, w.heap.size = Y := ⟨_, rfl⟩
  go_enter Tryd.func8, Tryd.ntmps8
  go_upto_region 3 with (at_make; obtain ⟨i0, hi0, hz0, hz1, hz2⟩ := info_parts info63; refine wpList_make_full (w.alloc (.cells #[.slice none 0 0] 30)) rfl _ _ 55 rfl w.heap.size 65 i0 _ 10 Tryd.underlying55 hi0 hz0 hz1 .i64 .i64 n n n rfl rfl rfl rfl (by rw [hz2]; omega) (by unfold maxLen; omega) (by simp) ?_; intro w2 ho2 hg2; have HM := Lib.hid (And.intro ho2 hg2); clear ho2 hg2)
  obtain ⟨S, hS⟩ : ∃ S, Y + 1 = S := ⟨_, rfl⟩
  have H0 : Hid (S = w.heap.size + 1 ∧ Bt w2 S n 0 ks ns ∧ Below w.heap.size w w2 ∧ Blk w2 Y 30 #[.slice none 0 0]) := Lib.hid (by
    have hg : w.grownBy w2 none := gb_trans (gb_alloc (gb_refl w none) _) HM.out.2
    have hy : Blk w2 Y 30 #[.slice none 0 0] := by
      have := (Blk.new w 30 #[.slice none 0 0]).gb HM.out.2 (by simp)
      rw [hY] at this
      exact this
    refine ⟨by omega, ?_, (Below.refl _ _).grown hg (Nat.le_refl _) (fun k hk => by cases hk), hy⟩
    rcases HM.out.1.2 with ⟨h, hm⟩ | ⟨g, cap, cur, hv, _, hh, _, _, hcs, htk⟩
    · cases h
    · simp only [Value.slice.injEq, Option.some.injEq, Addr.mk.injEq, and_true, true_and] at hv
      obtain ⟨rfl, rfl⟩ := hv
      have hh' : Blk w2 S 65 cur := by
        have e : (w.alloc (Obj.cells #[Value.slice none 0 0] 30)).heap.size = S := by simp; omega
        rw [e] at hh
        exact hh
      have hcur : cur = madeCells (Value.agg (zsym ByteArray.empty)).cells (n * 10) := by
        apply Array.ext'
        rw [← htk, List.take_of_length_le (by simp [hcs])]
      refine ⟨cur, hh', by omega, fun i hi => by omega, fun i _ hi => ?_⟩
      rw [hcur]
      exact made_raw _ n i hi)
  clear HM
  rw [hS]
  clear hS
  go_wp2_with fail
  go_loopg [11] n (fun k a wx => ∃ i : Nat, a = .int .i64 (i : Int) ∧ i ≤ n ∧ n - i ≤ k ∧ Hid (S = w.heap.size + 1 ∧ Bt wx S n i ks ns ∧ Below w.heap.size w wx ∧ Blk wx Y 30 #[.slice none 0 0]))
  case atStart => exact ⟨0, rfl, by omega, by omega, H0⟩
  case round =>
    obtain ⟨i, rfl, hi, hk, HB⟩ := hrel
    obtain ⟨wz, rfl⟩ : ∃ wz : World, wz = wr := ⟨_, rfl⟩
    rcases (show n = i ∨ i < n by omega) with he | hlt
    · obtain rfl := he
      have hmk := make30 wz
      have hy := HB.out.2.2.2
      have hbS := HB.out.2.1.out
      obtain ⟨T, hT⟩ : ∃ T, wz.heap.size = T := ⟨_, rfl⟩
      have hb1 := Blk.new wz 55 #[.slice (some ⟨S, 0, none⟩) n n]
      rw [hT] at hb1
      have hyl := hy.lt
      have hy1 : Blk (wz.alloc (.cells #[.slice (some ⟨S, 0, none⟩) n n] 55)) Y 30 #[.slice none 0 0] := hy.alloc _
      have y0 := hy1.cell 0
      have g0 := hy1.free 0
      have HF : Hid (Blk ((wz.alloc (.cells #[.slice (some ⟨S, 0, none⟩) n n] 55)).setCell ⟨Y, 0, none⟩ (.slice (some ⟨T, 0, none⟩) 1 1)) Y 30 #[.slice (some ⟨T, 0, none⟩) 1 1] ∧
          Blk ((wz.alloc (.cells #[.slice (some ⟨S, 0, none⟩) n n] 55)).setCell ⟨Y, 0, none⟩ (.slice (some ⟨T, 0, none⟩) 1 1)) T 55 #[.slice (some ⟨S, 0, none⟩) n n]) := Lib.hid ⟨hy1.set 0 _, blk_set_ne hb1 (by omega) 0 none _⟩
      obtain ⟨cs, q1, q2, q3, q4⟩ := hbS
      have hSl := q1.lt
      have HG := Lib.hid (And.intro q1 (And.intro q2 (And.intro q3 (And.intro q4 (And.intro hyl (And.intro hT hSl))))))
      clear hy q1 q2 q3 q4 hb1 hy1
      go_wp2_with fail
      have hYl := HG.out.2.2.2.2.1
      have hTl := HG.out.2.2.2.2.2.1
      have hSl := HG.out.2.2.2.2.2.2
      have hSd := HB.out.1
      refine bodyPost_ret (v := .agg #[.slice (some ⟨T, 0, none⟩) 1 1]) (results_cell_row (d := _) Tryd.results8 _ _ Y 30 _ (0, 0) (by rfl) HF.out.1 Tryd.underlying30 rfl (by kernel_rfl)) rfl ?_
      refine ⟨S, T, rfl, by omega, by omega, ⟨cs, blk_set_ne (HG.out.1.alloc _) (by omega) _ _ _, HG.out.2.1, HG.out.2.2.1, HG.out.2.2.2.1⟩, HF.out.2, ?_⟩
      have hbw := HB.out.2.2.1
      have hbs := hbw.size
      exact (hbw.alloc hbs _).setCell (p := ⟨Y, 0, none⟩) (show w.heap.size ≤ Y by omega) _
    · obtain ⟨b1, o1, rfl, lt1, hc1⟩ := H.out.1.at (i := i) (by omega)
      obtain ⟨b3, o3, rfl, lt3, hc3⟩ := H.out.2.1.at (i := i) (by omega)
      have hk8 := H.out.2.2.1 i (by omega)
      have hs32 := H.out.2.2.2 i (by omega)
      obtain ⟨k, hkk⟩ : ∃ k, nth ks i = k := ⟨_, rfl⟩
      obtain ⟨s, hss⟩ : ∃ s, nth ns i = s := ⟨_, rfl⟩
      rw [hkk] at hc1 hk8
      rw [hss] at hc3 hs32
      have HV := Lib.hid (And.intro hkk hss)
      have HC := Lib.hid (And.intro hc1 (And.intro hc3 (And.intro lt1 lt3)))
      clear hkk hss hc1 hc3
      obtain ⟨cs, q1, q2, q3, q4⟩ := HB.out.2.1.out
      have HQ := Lib.hid (And.intro q2 (And.intro q3 q4))
      have n1 := (HB.out.2.2.1.cell (p := ⟨b1, o1 + i, none⟩) lt1).trans HC.out.1
      obtain ⟨v1, k1⟩ := q1.has (i := i * 10 + 8) (by omega)
      have f1 := q1.free (i * 10 + 8)
      have hSl := q1.lt
      have HX := Lib.hid q1
      clear q1 q2 q3 q4
      have HKD := Lib.hid (fun (w : World) => kind_any k hk8.1 hk8.2 w)
      have d0 : decide ((i : Int) < 0) = false := by simp
      go_upto_region 10 with (go_at_call 17; refine (HKD.out _).mono ?_; rintro e w' ⟨rfl, rfl⟩)
      obtain ⟨w2', hw2⟩ : ∃ w2', w'.setCell ⟨S, i * 10 + 8, none⟩ (.int .u8 (kindOf k)) = w2' := ⟨_, rfl⟩
      have hb2 := HX.out.set (i * 10 + 8) (.int .u8 (kindOf k))
      have hg2 : w'.grownBy (w'.setCell ⟨S, i * 10 + 8, none⟩ (.int .u8 (kindOf k))) (some S) := gb_set (gb_refl _ _) _ _ _
      rw [hw2] at hb2 hg2 ⊢
      clear hw2 n1 k1 f1
      have HX2 := Lib.hid (And.intro hb2 hg2)
      have HI2 := Lib.hid (fun (w : World) => inv_any w)
      clear hb2 hg2
      go_upto_region 11 with (go_at_call 18; refine (HI2.out _).mono ?_; rintro e w3 ⟨rfl, hg3⟩; have hb3 := HX2.out.1.gb hg3 (by simp); obtain ⟨v2, k2⟩ := hb3.has (i := i * 10 + 2) (by have := HQ.out.1; simp; omega); have f2 := hb3.free (i * 10 + 2); have hb4 := hb3.set (i * 10 + 2) (.int .u32 4294967295); obtain ⟨v3, k3⟩ := hb4.has (i := i * 10 + 2 + 1) (by have := HQ.out.1; simp; omega); have f3 := hb4.free (i * 10 + 2 + 1); have HX3 := Lib.hid (And.intro (hb4.set (i * 10 + 2 + 1) (.int .u32 4294967295)) (gb_set (gb_set (gb_trans HX2.out.2 (gb_none hg3)) (i * 10 + 2) none (.int .u32 4294967295)) (i * 10 + 2 + 1) none (.int .u32 4294967295))); clear hg3 hb3 hb4)
      obtain ⟨w4, hw4⟩ : ∃ w4, (w3.setCell ⟨S, i * 10 + 2, none⟩ (.int .u32 4294967295)).setCell ⟨S, i * 10 + 2 + 1, none⟩ (.int .u32 4294967295) = w4 := ⟨_, rfl⟩
      rw [hw4] at HX3 ⊢
      clear hw4 k2 f2 k3 f3 HX2
      have n3 : w4.cell? ⟨b3, o3 + i, none⟩ = some (.int .u32 s) := (World.cell?_of_block (HX3.out.2.block b3 (by have := HB.out.2.2.1.size; have := HC.out.2.2.2; omega) (fun e => by have := Option.some.inj e; have := HC.out.2.2.2; have := HB.out.1; omega))).trans ((HB.out.2.2.1.cell (p := ⟨b3, o3 + i, none⟩) HC.out.2.2.2).trans HC.out.2.1)
      have hfin : ∀ (w5 : World) (cs5 : Array Value), Blk w5 S 65 cs5 → w'.grownBy w5 (some S) → cs5.size = 10 * n → (∀ j, (j < i * 10 ∨ i * 10 + 10 ≤ j) → cs5[j]? = cs[j]?) → Row cs5 ks ns i →
          Hid (S = w.heap.size + 1 ∧ Bt w5 S n (i + 1) ks ns ∧ Below w.heap.size w w5 ∧ Blk w5 Y 30 #[.slice none 0 0]) := fun w5 cs5 q1 q2 q3 q4 q5 =>
        Lib.hid ⟨HB.out.1, Bt.step q1 q3 HQ.out.2.1 HQ.out.2.2 q4 q5, HB.out.2.2.1.grown q2 HB.out.2.2.1.size (fun k hk => by have := Option.some.inj hk; have := HB.out.1; omega), HB.out.2.2.2.gb q2 (fun e => by have := Option.some.inj e; have := HB.out.1; omega)⟩
      have HFIN := Lib.hid hfin
      clear hfin
      have hwi : IntKind.u32.wrap (i : Int) = i := by rw [IntKind.wrap_u32]; omega
      by_cases hs0 : s = 0
      · have d3 : (s == 0) = true := by simp [hs0]
        have HS0 := Lib.hid hs0
        clear hs0 hwi
        go_wp2_with fail
        go_roundg (gk - 1)
        case measure => omega
        case rel =>
          have hs0 := HS0.out
          exact ⟨i + 1, by go_num, by omega, by omega, HFIN.out w4 _ HX3.out.1 HX3.out.2 (by have := HQ.out.1; simp; omega) (fun j hj => by simp only [Array.getElem?_setIfInBounds]; repeat rw [if_neg (by omega)]) (by
                  have hq := HQ.out.1
                  have z2 : i * 10 + 2 < cs.size := by omega
                  have z3 : i * 10 + 3 < cs.size := by omega
                  have z8 : i * 10 + 8 < cs.size := by omega
                  have hr := HQ.out.2.2 i (Nat.le_refl _) hlt
                  have hr6 := hr.1
                  have hr7 := hr.2.1
                  have hr0 := hr.2.2
                  exact ⟨(by (repeat rw [Array.getElem?_setIfInBounds_ne (by omega)]); exact hr0), by simp [Array.getElem?_setIfInBounds, z2], by simp [Array.getElem?_setIfInBounds, z3], by rw [HV.out.2]; simp [Array.getElem?_setIfInBounds, hr6, hs0], by simp [Array.getElem?_setIfInBounds, hr7], by rw [HV.out.1]; simp [Array.getElem?_setIfInBounds, z8]⟩)⟩
      · have d3 : (s == 0) = false := by simp [hs0]
        have HS0 := Lib.hid hs0
        have hw5 : IntKind.u32.wrap (s - 1) = s - 1 := by rw [IntKind.wrap_u32]; omega
        have HMK := Lib.hid (fun (w : World) => mk_any (s - 1) (by omega) (by omega) w)
        clear hs0 hwi
        go_wp2_with (go_at_call 19; refine (HMK.out _).mono ?_; rintro e w7 ⟨rfl, hg7⟩; have hb7 := HX3.out.1.gb hg7 (by simp); obtain ⟨v6, k6⟩ := hb7.has (i := i * 10 + 6) (by have := HQ.out.1; simp; omega); have f6 := hb7.free (i * 10 + 6); have hl7 := hb7.lt; have HX7 := Lib.hid (And.intro (hb7.set (i * 10 + 6) (.int .u32 (4294967295 - (s - 1)))) (gb_set (gb_trans HX3.out.2 (gb_none hg7)) (i * 10 + 6) none (.int .u32 (4294967295 - (s - 1))))); clear hg7 hb7)
        go_roundg (gk - 1)
        case measure => clear hw5; omega
        case rel =>
          have hs0 := HS0.out
          clear hw5
          exact ⟨i + 1, by go_num, by omega, by omega, HFIN.out _ _ HX7.out.1 HX7.out.2 (by have := HQ.out.1; simp; omega) (fun j hj => by simp only [Array.getElem?_setIfInBounds]; repeat rw [if_neg (by omega)]) (by
                  have hq := HQ.out.1
                  have z2 : i * 10 + 2 < cs.size := by omega
                  have z3 : i * 10 + 3 < cs.size := by omega
                  have z6 : i * 10 + 6 < cs.size := by omega
                  have z8 : i * 10 + 8 < cs.size := by omega
                  have hr := HQ.out.2.2 i (Nat.le_refl _) hlt
                  have hr7 := hr.2.1
                  have hr0 := hr.2.2
                  exact ⟨(by (repeat rw [Array.getElem?_setIfInBounds_ne (by omega)]); exact hr0), by simp [Array.getElem?_setIfInBounds, z2], by simp [Array.getElem?_setIfInBounds, z3], by rw [HV.out.2]; simp [Array.getElem?_setIfInBounds, z6, hs0], by simp [Array.getElem?_setIfInBounds, hr7], by rw [HV.out.1]; simp [Array.getElem?_setIfInBounds, z8]⟩)⟩
end Go.Proofs.YtnfjfjcdehohhaaDoor
