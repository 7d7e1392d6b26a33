/-
  NameForSymbol over the symbol table, NewNumberRenamer. No statement of the seat is proved here.
-/
import Derived.Test.YtdpigpogicapoaaDoorFs
import Derived.Laws.Cover3
import Derived.Lib.Strings
import Derived.Deep.OwnRows
namespace Go.Proofs.YtdpigpogicapoaaDoor
open Go.RowKit
set_option linter.unusedVariables false
set_option linter.unusedSimpArgs false

/-- a fresh renamer: block R, its names' row in block M -/
def Nr (w : World) (T tl tc R M : Nat) : Prop := Blk w R 55 #[.slice (some ⟨T, 0, none⟩) tl tc, .pointer none, .map none, .slice (some ⟨M, 0, none⟩) 1 1] ∧ Blk w M 22 #[.slice none 0 0]
theorem Nr.gb {w w' : World} {T tl tc R M S : Nat} (h : Nr w T tl tc R M) (hg : w.grownBy w' (some S)) (hR : R ≠ S) (hM : M ≠ S) : Nr w' T tl tc R M :=
  ⟨h.1.gb hg (fun e => hR (Option.some.inj e)), h.2.gb hg (fun e => hM (Option.some.inj e))⟩
theorem Sy.str {w : World} {T S tl n : Nat} {ks : Array Value} {root rk : Nat → Nat} (h : Sy w T S tl n ks root rk) {i : Nat} (hi : i < n) {t : ByteArray} (hk : ks[i * 10 + 1]? = some (.string t)) : w.cell? ⟨S, i * 10 + 1, none⟩ = some (.string t) := by
  obtain ⟨ts, cs, q1, q2, q3, q4, q5, q6, q7, q8⟩ := h.out
  rw [q5.cell, q7 _ (by omega) (by omega)]
  exact hk
set_option maxRecDepth 100000 in
set_option maxHeartbeats 1000000 in
theorem name_any (T S tl tc n R M : Nat) (ks : Array Value) (root rk : Nat → Nat) (hTS : S ≠ T) (hT0 : 0 ≠ T) (hS0 : 0 ≠ S) (hH : ∀ j, j < n → root j < n ∧ rk (root j) ≤ rk j ∧ root (root j) = root j) (hR : R ≠ S) (hM : M ≠ S)
    (i : Nat) (w : World) (hi : i < n) (hs : Sy w T S tl n ks root rk) (hv : Iv w) (hn : Nr w T tl tc R M) (t : ByteArray) (hk : ks[root i * 10 + 1]? = some (.string t)) :
    Calls Tryd.prog 10 #[.pointer (some ⟨R, 0, none⟩), .agg #[.int .u32 0, .int .u32 (i : Int)]] w fun e w' => e = .returned (.string t) ∧ Sy w' T S tl n ks root rk ∧ w.grownBy w' (some S) := by
  have hroot := hH i hi
  obtain ⟨w1, hw1⟩ : ∃ w1, w.alloc (.cells #[.int .u32 0, .int .u32 (i : Int)] 38) = w1 := ⟨_, rfl⟩
  have g1 : w.grownBy w1 none := by rw [← hw1]; exact gb_alloc (gb_refl _ _) _
  have hb1 : Blk w1 w.heap.size 38 #[.int .u32 0, .int .u32 (i : Int)] := by rw [← hw1]; exact Blk.new _ _ _
  have hlt := hs.lt
  have hs1 := hs.gb g1 (by simp) (by simp)
  have hv1 := hv.gb g1 (by simp)
  have hn1 : Nr w1 T tl tc R M := hn.gb (gb_none g1) hR hM
  have HF := Lib.hid ((fol_any T S tl tc n ks root rk hTS hT0 hS0 hH (rk i + 1) i w1.drew (by omega) hi hs1.drew hv1))
  have r0 := hn1.1.drew.cell 0
  have b0 := hb1.drew.cell 0
  have b1 := hb1.drew.cell 1
  have lr := hn1.1.lt
  have lb := hb1.lt
  obtain ⟨A, hA⟩ : ∃ A, w.heap.size = A := ⟨_, rfl⟩
  have HL := Lib.hid (show R < w.heap.size ∧ M < w.heap.size from ⟨hn.1.lt, hn.2.lt⟩)
  have HW := Lib.hid (And.intro hs1 (And.intro hv1 (And.intro hn1 (And.intro hb1 (And.intro g1 hlt)))))
  rw [hA] at b0 b1 lb
  have hG : Hid (∀ wx, Sy wx T S tl n ks root rk → Calls Tryd.prog 13 #[.agg #[.slice (some ⟨T, 0, none⟩) tl tc], .agg #[.int .u32 0, .int .u32 (root i : Int)]] wx fun e w' => e = .returned (.pointer (some ⟨S, root i * 10, none⟩)) ∧ wx.grownBy w' none) := Lib.hid (fun wx h => get_any T S tl tc n ks root rk (root i) wx h hroot.1)
  clear hs hv hn hs1 hv1 hn1 hb1 g1 hlt
  go_enter Tryd.func10, Tryd.ntmps10
  go_upto_region 1 with fail
  go_cut [] (fun wc => Blk wc A 38 #[.int .u32 0, .int .u32 (root i : Int)] ∧ Sy wc T S tl n ks root rk ∧ Nr wc T tl tc R M ∧ w.grownBy wc (some S))
  case first =>
    go_region_with (go_at_call 12; refine HF.out.mono ?_; rintro e w6 ⟨rfl, hs6, hg6⟩; have hb6 := HW.out.2.2.2.1.gb (gb_und hg6) (fun e => by have := Option.some.inj e; have := HW.out.2.2.2.2.2; omega); rw [hA] at hb6; have z0 := hb6.cell 0; have z1 := hb6.cell 1; have y0 := hb6.free 0; have y1 := hb6.free 1; have hl6 := hb6.lt; have z2 := (hb6.set 0 (.int .u32 0)).cell 1; have y2 := (hb6.set 0 (.int .u32 0)).free 1; have H6 := Lib.hid (And.intro hs6 (And.intro hg6 hb6)); clear hs6 hg6 hb6)
    all_goals go_wp2_with fail
    all_goals go_meet
    all_goals
      have hl := HW.out.2.2.2.2.2
      have hl2 := HL.out
      have hg7 : w6.grownBy ((w6.setCell ⟨A, 0, none⟩ (.int .u32 0)).setCell ⟨A, 1, none⟩ (.int .u32 (root i : Int))) (some A) := gb_set (gb_set (gb_refl _ _) _ _ _) _ _ _
      have n6 : Nr w6 T tl tc R M := HW.out.2.2.1.gb (gb_und H6.out.2.1) hR hM
      exact ⟨(H6.out.2.2.set 0 _).set 1 _, H6.out.1.gb hg7 (fun e => by have := Option.some.inj e; omega) (fun e => by have := Option.some.inj e; omega), n6.gb hg7 (by omega) (by omega), gb_past (gb_trans (gb_none HW.out.2.2.2.2.1) (gb_und H6.out.2.1)) hg7 (by omega)⟩
  case rest =>
    obtain ⟨hb, hs, hn, hg⟩ := hcut
    have r0 := hn.1.drew.cell 0
    have r3 := hn.1.drew.cell 3
    have b0 := hb.drew.cell 0
    have b1 := hb.drew.cell 1
    have m0 := hn.2.drew.cell 0
    have lR := hn.1.lt
    have HS := Lib.hid (And.intro hs (And.intro hg (And.intro hb hn)))
    clear hs hg hb hn
    have hnil : (binOp .neq 22 (.slice none 0 0) (.slice none 0 0)).run Tryd.prog wc.drew = .ok (.bool false) wc.drew := run_neq_slice_nil wc.drew 22 9 none 0 0 Tryd.underlying22
    go_upto_region 2 with fail
    go_region
    all_goals go_upto_region 7 with fail
    have hs2 : Sy wc.drew T S tl n ks root rk := HS.out.1.drew
    generalize hw5 : wc.drew = w5 at *
    have R0 : w5.drew.cell? ⟨R, 0, none⟩ = some (.slice (some ⟨T, 0, none⟩) tl tc) := r0
    have B0 : w5.drew.cell? ⟨A, 0, none⟩ = some (.int .u32 0) := b0
    have B1 : w5.drew.cell? ⟨A, 1, none⟩ = some (.int .u32 (root i : Int)) := b1
    have LR : R < w5.heap.size := by rw [← hw5]; exact lR
    have HG := Lib.hid (hG.out w5.drew hs2.drew)
    have H2 := Lib.hid hs2
    have hw5' := Lib.hid hw5
    clear r0 r3 b0 b1 m0 hnil hs2 hw5
    go_region_with (go_at_call 13; refine HG.out.mono ?_; rintro e w6 ⟨rfl, hg6⟩; have hst := (H2.out.gb (gb_und hg6) (by simp) (by simp)).str hroot.1 hk; have hl6 := (H2.out.gb (gb_und hg6) (by simp) (by simp)).lt; have H6 := Lib.hid (And.intro hg6 (H2.out.gb (gb_und hg6) (by simp) (by simp))); clear hg6)
    all_goals go_wp2_with fail
    all_goals go_ret
    all_goals exact ⟨rfl, H6.out.2, gb_trans HS.out.2.1 (by have := gb_und H6.out.1; rw [← hw5'.out] at this; exact gb_none (gb_und this))⟩
theorem info22 : (Tryd.prog.info? 22).map (fun i => (i.zero, i.size, i.bytes)) = some (some (.slice none 0 0), 1, 24) := by kernel_rfl
theorem make50 (w : World) : (Instr.makeSlice 50 (.int .i64 1) (.int .i64 1)).run Tryd.prog w = .ok (.slice (some ⟨w.heap.size, 0, none⟩) 1 1) (w.alloc (.cells #[.slice none 0 0] 22)) := by
  have h := run_make_row' (P := Tryd.prog) 50 22 (.slice none 0 0) 24 Tryd.underlying50 info22 rfl .i64 .i64 1 (by decide) (by decide) w
  have e : madeCells #[Value.slice none 0 0] 1 = #[.slice none 0 0] := by apply Array.ext'; simp [madeCells]
  rw [e] at h
  exact h
set_option maxRecDepth 100000 in
theorem inv_any (w : World) : Calls Tryd.prog 14 #[] w fun e w' => e = .returned (.agg #[.int .u32 4294967295, .int .u32 4294967295]) ∧ w.grownBy w' none := by
  have hz : (zeroValue 38).run Tryd.prog w = .ok (.agg #[.int .u32 0, .int .u32 0]) w := by kernel_rfl
  have hb := Blk.new w 38 #[.int .u32 4294967295, .int .u32 4294967295]
  go_enter Tryd.func14, Tryd.ntmps14
  go_wp2_with fail
  exact bodyPost_ret (v := .agg #[.int .u32 4294967295, .int .u32 4294967295]) (results_cell_row (d := _) Tryd.results14 _ _ w.heap.size 38 _ (0, 0) (by rfl) hb Tryd.underlying38 rfl (by kernel_rfl)) rfl ⟨rfl, gb_alloc (gb_refl _ _) _⟩
set_option maxRecDepth 100000 in
set_option maxHeartbeats 1000000 in
theorem newr_any (T tl tc : Nat) (htl : tl = 1) (w : World) (hT : T < w.heap.size) :
    Calls Tryd.prog 9 #[.agg #[.slice (some ⟨T, 0, none⟩) tl tc], .map none] w fun e w' => ∃ R M, e = .returned (.pointer (some ⟨R, 0, none⟩)) ∧ Nr w' T tl tc R M ∧ w.heap.size ≤ R ∧ w.heap.size ≤ M ∧ w.grownBy w' none := by
  subst htl
  have hmk := make50
  have hb0 := (Blk.new w 32 #[.slice (some ⟨T, 0, none⟩) 1 tc]).drew.cell 0
  have lb0 := (Blk.new w 32 #[.slice (some ⟨T, 0, none⟩) 1 tc]).lt
  go_enter Tryd.func9, Tryd.ntmps9
  go_wp2_with fail
  go_region
  go_wp2_with fail
  go_ret
  refine ⟨w.heap.size + 1 + 1, w.heap.size + 1, rfl, ⟨?_, ?_⟩, by omega, by omega, gb_drew (gb_alloc (gb_alloc (gb_alloc (gb_refl _ _) _) _) _)⟩
  · have h := Blk.new ((w.alloc (.cells #[.slice (some ⟨T, 0, none⟩) 1 tc] 32)).alloc (.cells #[.slice none 0 0] 22)) 55 #[.slice (some ⟨T, 0, none⟩) 1 tc, .pointer none, .map none, .slice (some ⟨w.heap.size + 1, 0, none⟩) 1 1]
    refine Blk.drew ?_
    simpa using h
  · have h := (Blk.new (w.alloc (.cells #[.slice (some ⟨T, 0, none⟩) 1 tc] 32)) 22 #[.slice none 0 0]).alloc (.cells #[.slice (some ⟨T, 0, none⟩) 1 tc, .pointer none, .map none, .slice (some ⟨w.heap.size + 1, 0, none⟩) 1 1] 55)
    refine Blk.drew ?_
    simpa using h
end Go.Proofs.YtdpigpogicapoaaDoor
