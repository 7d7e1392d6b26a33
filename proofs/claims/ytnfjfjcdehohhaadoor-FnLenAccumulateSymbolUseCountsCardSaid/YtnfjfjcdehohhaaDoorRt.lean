/-
  The clones, the table as FollowSymbols wants it. No statement of the seat is proved here.
-/
import Derived.Test.YtnfjfjcdehohhaaDoorUc
import Derived.Test.YtnfjfjcdehohhaaDoorZg
import Derived.Lib.SliceRun
namespace Go.Proofs.YtnfjfjcdehohhaaDoor
open Go.RowKit
set_option linter.unusedVariables false
set_option linter.unusedSimpArgs false

theorem c8_info : (Tryd.prog.info? 5).map (fun i => (i.zero, i.size, i.bytes)) = some (some (.int .u8 0), 1, 1) := by kernel_rfl
theorem c8_any (ao : Option Addr) (cap : Nat) (zs : List Int) (w : World) (hin : In .u8 w ao zs) (hl : zs.length ≤ 1048576) :
    Calls Tryd.prog 6 #[.slice ao zs.length cap] w (Cloned .u8 5 w zs) := by
  have hnil := fun (w : World) => Lib.run_eql_slice_nil (P := Tryd.prog) w 22 5 ao zs.length cap 0 0 Tryd.underlying22
  rcases ao with _ | x
  · have hz : zs = [] := by
      rcases hin with h | ⟨b, off, h, _⟩
      · exact h
      · cases h
    subst hz
    clear hin hl
    simp only [List.length_nil, Option.isNone_none] at hnil
    go_enter Tryd.func6, Tryd.ntmps6
    go_wp2
    go_ret
    exact ⟨_, _, rfl, .inl rfl, Below.refl _ _⟩
  · have HI := Lib.hid hin
    clear hin
    go_enter Tryd.func6, Tryd.ntmps6
    go_wp2_with (at_make; refine wpList_make_ints _ rfl _ _ 22 rfl 5 .u8 1 Tryd.underlying22 c8_info zs.length rfl rfl (by omega) (by unfold maxLen; omega) ?_; intro w1 hb hgr)
    have hb1 : Below w.heap.size w w1 := (Below.refl _ w).grown hgr (Nat.le_refl _) (fun k h => by cases h)
    have HB := Lib.hid (And.intro hb hb1)
    clear hb hgr hb1
    go_loopw [4] (fun i wr => ∃ k : Nat, k ≤ zs.length ∧ i = .int .i64 k ∧ Blk wr w.heap.size 5 (ints .u8 (cpy zs k)) ∧ Below w.heap.size w wr) (fun i _ => zs.length - (intOf i).toNat)
    case atStart => exact ⟨0, Nat.zero_le _, rfl, by rw [cpy_zero]; exact HB.out.1, HB.out.2⟩
    case round =>
      obtain ⟨k, hk, rfl, hB, hbel⟩ := hrel
      rcases (show k = zs.length ∨ k < zs.length by omega) with rfl | hlt
      · rw [cpy_end] at hB
        have HF := Lib.hid (And.intro hB hbel)
        clear hB hbel
        go_wp2
        go_ret
        exact ⟨_, _, rfl, .inr ⟨_, rfl, Nat.le_refl _, HF.out.1⟩, HF.out.2⟩
      · obtain ⟨b, off, hx, hblt, hc⟩ := HI.out.at hlt
        cases hx
        have hc' := (hbel.cell (p := ⟨b, off + k, none⟩) hblt).trans hc
        have hcl := cpy_length zs k hk
        have hs := hB.int (i := k) (by omega)
        have hf := hB.free k
        have hB2 := hB.put k (nth zs k)
        rw [cpy_step zs k hlt] at hB2
        have HN := Lib.hid (And.intro hB2 (hbel.setCell (p := ⟨w.heap.size, k, none⟩) (Nat.le_refl _) (.int .u8 (nth zs k))))
        clear hB hbel hB2 hc hcl
        go_wp2
        go_roundw
        case rel => exact ⟨k + 1, by omega, by go_num, HN.out.1, HN.out.2⟩
        case measure => simp [intOf]; omega

theorem cu_info : (Tryd.prog.info? 24).map (fun i => (i.zero, i.size, i.bytes)) = some (some (.int .u32 0), 1, 4) := by kernel_rfl
theorem cu_any (ao : Option Addr) (cap : Nat) (zs : List Int) (w : World) (hin : In .u32 w ao zs) (hl : zs.length ≤ 1048576) :
    Calls Tryd.prog 7 #[.slice ao zs.length cap] w (Cloned .u32 24 w zs) := by
  have hnil := fun (w : World) => Lib.run_eql_slice_nil (P := Tryd.prog) w 23 24 ao zs.length cap 0 0 Tryd.underlying23
  rcases ao with _ | x
  · have hz : zs = [] := by
      rcases hin with h | ⟨b, off, h, _⟩
      · exact h
      · cases h
    subst hz
    clear hin hl
    simp only [List.length_nil, Option.isNone_none] at hnil
    go_enter Tryd.func7, Tryd.ntmps7
    go_wp2
    go_ret
    exact ⟨_, _, rfl, .inl rfl, Below.refl _ _⟩
  · have HI := Lib.hid hin
    clear hin
    go_enter Tryd.func7, Tryd.ntmps7
    go_wp2_with (at_make; refine wpList_make_ints _ rfl _ _ 23 rfl 24 .u32 4 Tryd.underlying23 cu_info zs.length rfl rfl (by omega) (by unfold maxLen; omega) ?_; intro w1 hb hgr)
    have hb1 : Below w.heap.size w w1 := (Below.refl _ w).grown hgr (Nat.le_refl _) (fun k h => by cases h)
    have HB := Lib.hid (And.intro hb hb1)
    clear hb hgr hb1
    go_loopw [4] (fun i wr => ∃ k : Nat, k ≤ zs.length ∧ i = .int .i64 k ∧ Blk wr w.heap.size 24 (ints .u32 (cpy zs k)) ∧ Below w.heap.size w wr) (fun i _ => zs.length - (intOf i).toNat)
    case atStart => exact ⟨0, Nat.zero_le _, rfl, by rw [cpy_zero]; exact HB.out.1, HB.out.2⟩
    case round =>
      obtain ⟨k, hk, rfl, hB, hbel⟩ := hrel
      rcases (show k = zs.length ∨ k < zs.length by omega) with rfl | hlt
      · rw [cpy_end] at hB
        have HF := Lib.hid (And.intro hB hbel)
        clear hB hbel
        go_wp2
        go_ret
        exact ⟨_, _, rfl, .inr ⟨_, rfl, Nat.le_refl _, HF.out.1⟩, HF.out.2⟩
      · obtain ⟨b, off, hx, hblt, hc⟩ := HI.out.at hlt
        cases hx
        have hc' := (hbel.cell (p := ⟨b, off + k, none⟩) hblt).trans hc
        have hcl := cpy_length zs k hk
        have hs := hB.int (i := k) (by omega)
        have hf := hB.free k
        have hB2 := hB.put k (nth zs k)
        rw [cpy_step zs k hlt] at hB2
        have HN := Lib.hid (And.intro hB2 (hbel.setCell (p := ⟨w.heap.size, k, none⟩) (Nat.le_refl _) (.int .u32 (nth zs k))))
        clear hB hbel hB2 hc hcl
        go_wp2
        go_roundw
        case rel => exact ⟨k + 1, by omega, by go_num, HN.out.1, HN.out.2⟩
        case measure => simp [intOf]; omega

theorem Bt.sy {w : World} {S T n : Nat} {ks ns : List Int} (h : Bt w S n n ks ns) (hT : Blk w T 55 #[.slice (some ⟨S, 0, none⟩) n n]) :
    ∃ kc, Sy w T S 1 n kc id (fun _ => 0) ∧ Kc kc n ks ns := by
  obtain ⟨cs, h1, h2, h3, _⟩ := h.out
  exact ⟨cs, ⟨_, cs, hT, rfl, rfl, by decide, h1, h2, fun _ _ _ => rfl, fun i hi => .inl ⟨(h3 i hi).l0, (h3 i hi).l1, rfl⟩⟩, fun i hi => ⟨(h3 i hi).alias, (h3 i hi).nest, (h3 i hi).flags, (h3 i hi).kind⟩⟩
theorem sc_any (c0 c1 c2 c3 : Int) (w : World) : Calls Tryd.prog 10 #[.int .u32 c0, .int .u32 c1, .int .u32 c2, .int .u32 c3] w fun e w' => e = .returned (.agg #[.int .u32 c0, .int .u32 c1, .int .u32 c2, .int .u32 c3]) ∧ w.grownBy w' none := by
  go_enter Tryd.func10, Tryd.ntmps10
  go_wp2_with fail
  have hb := (Blk.new w 35 #[.int .u32 c0, .int .u32 c1, .int .u32 c2, .int .u32 c3]).alloc (.cells #[.int .u32 c0, .int .u32 c1, .int .u32 c2, .int .u32 c3] 35)
  exact bodyPost_ret (v := .agg #[.int .u32 c0, .int .u32 c1, .int .u32 c2, .int .u32 c3]) (results_cell_row (d := _) Tryd.results10 _ _ w.heap.size 35 _ (0, 0) (by rfl) hb Tryd.underlying35 rfl (by kernel_rfl)) rfl ⟨rfl, gb_alloc (gb_alloc (gb_refl _ _) _) _⟩

theorem Iv.below {w w' : World} (h : Iv w) (hb : Below w.heap.size w w') : Iv w' := by
  have hl : 0 < w.heap.size := World.block_lt_of_cell? w _ h.1
  exact ⟨(hb.cell (p := ⟨0, 0, none⟩) hl).trans h.1, (hb.cell (p := ⟨0, 1, none⟩) hl).trans h.2⟩
theorem cu' (ao : Option Addr) (n cap : Nat) (zs : List Int) (w : World) (hn : zs.length = n) (hin : In .u32 w ao zs) (hl : n ≤ 65536) : Calls Tryd.prog 7 #[.slice ao n cap] w fun e w' => ∃ ao' cap', e = .returned (.slice ao' n cap') ∧ In .u32 w' ao' zs ∧ Below w.heap.size w w' := by
  subst hn
  refine (cu_any ao cap zs w hin (by omega)).mono ?_
  rintro e w' ⟨ao', cap', h1, h2, h3⟩
  exact ⟨ao', cap', h1, Cloned.in' h2, h3⟩
theorem c8' (ao : Option Addr) (n cap : Nat) (zs : List Int) (w : World) (hn : zs.length = n) (hin : In .u8 w ao zs) (hl : n ≤ 65536) : Calls Tryd.prog 6 #[.slice ao n cap] w fun e w' => ∃ ao' cap', e = .returned (.slice ao' n cap') ∧ In .u8 w' ao' zs ∧ Below w.heap.size w w' := by
  subst hn
  refine (c8_any ao cap zs w hin (by omega)).mono ?_
  rintro e w' ⟨ao', cap', h1, h2, h3⟩
  exact ⟨ao', cap', h1, Cloned.in' h2, h3⟩
theorem New.kept {w w' : World} {B R T bm g0 g1 g2 g3 c0 c1 c2 c3 : Nat} (h : New w B R T bm g0 g1 g2 g3 c0 c1 c2 c3) (hb : Below w.heap.size w w') : New w' B R T bm g0 g1 g2 g3 c0 c1 c2 c3 :=
  ⟨h.blk.kept hb, h.r0.kept hb, h.r1.kept hb, h.r2.kept hb, h.r3.kept hb, below_blk hb h.map (blk_lt h.map), h.ne, h.le⟩
theorem Sy.kept {w w' : World} {T S tl n : Nat} {ks : Array Value} {root rk : Nat → Nat} (h : Sy w T S tl n ks root rk) (hb : Below w.heap.size w w') : Sy w' T S tl n ks root rk := by
  obtain ⟨ts, cs, q1, q2, q3, q4, q5, q6⟩ := h.out
  exact ⟨ts, cs, q1.kept hb, q2, q3, q4, q5.kept hb, q6⟩
/-- the arguments as they read -/
structure Ar4 (w : World) (a0 a1 a2 a3 : Option Addr) (ks ns us cs : List Int) : Prop where
  i0 : In .u8 w a0 ks
  i1 : In .u32 w a1 ns
  i2 : In .u32 w a2 us
  i3 : In .u32 w a3 cs
theorem Ar4.kept {w w' : World} {a0 a1 a2 a3 : Option Addr} {ks ns us cs : List Int} (h : Ar4 w a0 a1 a2 a3 ks ns us cs) (hb : Below w.heap.size w w') : Ar4 w' a0 a1 a2 a3 ks ns us cs :=
  ⟨h.i0.kept hb, h.i1.kept hb, h.i2.kept hb, h.i3.kept hb⟩
/-- after a step: the arguments read as before, the variable holds, nothing old has turned -/
def Ok (w0 w : World) (a0 a1 a2 a3 : Option Addr) (ks ns us cs : List Int) : Prop := Ar4 w a0 a1 a2 a3 ks ns us cs ∧ Iv w ∧ Below w0.heap.size w0 w
theorem Ok.kept {w0 w w' : World} {a0 a1 a2 a3 : Option Addr} {ks ns us cs : List Int} (h : Ok w0 w a0 a1 a2 a3 ks ns us cs) (hb : Below w.heap.size w w') : Ok w0 w' a0 a1 a2 a3 ks ns us cs :=
  ⟨h.1.kept hb, h.2.1.below hb, h.2.2.trans (hb.mono h.2.2.size)⟩
def RetTrue (e : Ending) : Prop := e = .returned (.bool true)
end Go.Proofs.YtnfjfjcdehohhaaDoor
