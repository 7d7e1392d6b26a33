/-
  For all lists and all i, j in range the law FnStableRefArraySwapExact returns true: Swap exchanges exactly the elements i and j and leaves every other element as it was (and it returns true outside those bounds). No conditions.
-/
import Derived.Test.YtbicjmaogbaldabRows
import Derived.WalkKit
import Derived.ProofKit
import Derived.OpenShut
import Derived.ShutString
import Derived.ChangeOld
import Derived.Below
import Derived.WalkSpells
import Derived.WalkLawsBesides
import Derived.LoopTactic
import Derived.RegionTactic
import Derived.BigRegion
import Derived.ChangeAlike
import Derived.Deep.RegionHeld3
import Derived.Laws.StructEq
import Derived.Test.YtbicjmaogbaldabInts
namespace Go.Proofs.Ytbicjmaogbaldab.fnStableRefArraySwapExact
open Go.ChangeShapes Go.WideShapes Go.ChangeAt Go.RowKit
open Go.ChangeMaps (open_string shut_string)
set_option linter.unusedVariables false

theorem own : ownKnob Try.prog.godebug = none := by kernel_rfl
theorem laidOut : laidOutB Try.prog = true := by kernel_rfl

/-- WHAT THE WALK IS TOLD OF A SLICE OF INTEGERS THAT CAME IN: it is nil; or it leads to a row of 'cap' cells, the numbers 'zs' (the first 'len' are its elements, the rest its spare room), each fitting its kind. -/
def IsRow (k : IntKind) (w : World) (a : Option Addr) (len cap : Nat) (zs : List Int) : Prop :=
  (a = none ∧ len = 0 ∧ cap = 0 ∧ zs = []) ∨
  ∃ x, a = some x ∧ len ≤ cap ∧ cap ≤ maxLen ∧ zs.length = cap ∧ (∀ i, i < zs.length → w.cell? (x.add i) = some (.int k (zs.getD i 0))) ∧ ∀ n ∈ zs, (Lit.int k n).wf = true

theorem row_in {k : IntKind} {w : World} {a : Option Addr} {len cap : Nat} {z : List Int} (h : IsRow k w a len cap z) : ∃ zs : List Int, zs.length = len ∧ In k w a zs ∧ zs.length ≤ maxLen := by
  rcases h with ⟨rfl, rfl, rfl, rfl⟩ | ⟨x, rfl, h1, h2, h3, h4, _⟩
  · exact ⟨[], rfl, .inl rfl, by simp⟩
  · have hl : (z.take len).length = len := by rw [List.length_take]; omega
    refine ⟨z.take len, hl, ?_, by omega⟩
    by_cases h0 : len = 0
    · subst h0; exact .inl (by simp)
    · obtain ⟨b, off, spot⟩ := x
      have hc := h4 0 (by omega)
      have hspot : spot = none := by simpa [Addr.add] using World.cell?_spot hc
      subst hspot
      refine .inr ⟨b, off, rfl, World.block_lt_of_cell? w _ hc, fun i hi => ?_⟩
      have := h4 i (by omega)
      have e : (⟨b, off, none⟩ : Addr).add i = ⟨b, off + i, none⟩ := by unfold Addr.add; split <;> simp_all
      rw [e] at this
      rw [this, nth_take z len i (by omega)]; rfl


theorem copy_info : (Try.prog.info? 22).map (fun i => (i.zero, i.size, i.bytes)) = some (some (.int .u32 0), 1, 4) := by kernel_rfl
theorem copy_any (ao : Option Addr) (cap : Nat) (zs : List Int) (w : World) (hin : In .u32 w ao zs) (hl : zs.length ≤ 1048576) :
    Calls Try.prog 12 #[.slice ao zs.length cap] w (Cloned .u32 22 w zs) := by
  have hnil := fun (w : World) => Lib.run_eql_slice_nil (P := Try.prog) w 32 22 ao zs.length cap 0 0 Try.underlying32
  rcases ao with _ | x
  · have hz : zs = [] := by
      rcases hin with h | ⟨b, off, h, _⟩
      · exact h
      · cases h
    subst hz
    clear hin hl
    simp only [List.length_nil, Option.isNone_none] at hnil
    go_enter Try.func12, Try.ntmps12
    go_wp2
    go_ret
    exact ⟨_, _, rfl, .inl rfl, Below.refl _ _⟩
  · have HI := Lib.hid hin
    clear hin
    go_enter Try.func12, Try.ntmps12
    go_wp2_with (at_make; refine wpList_make_ints _ rfl _ _ 32 rfl 22 .u32 4 Try.underlying32 copy_info zs.length rfl rfl (by omega) (by unfold maxLen; omega) ?_; intro w1 hb hgr)
    have hb1 : Below w.heap.size w w1 := (Below.refl _ w).grown hgr (Nat.le_refl _) (fun k h => by cases h)
    have HB := Lib.hid (And.intro hb hb1)
    clear hb hgr hb1
    go_loopw [4] (fun i wr => ∃ k : Nat, k ≤ zs.length ∧ i = .int .i64 k ∧ Blk wr w.heap.size 22 (ints .u32 (cpy zs k)) ∧ Below w.heap.size w wr) (fun i _ => zs.length - (intOf i).toNat)
    case atStart => exact ⟨0, Nat.zero_le _, rfl, by rw [cpy_zero]; exact HB.out.1, HB.out.2⟩
    case round =>
      obtain ⟨k, hk, rfl, hB, hbel⟩ := hrel
      rcases (show k = zs.length ∨ k < zs.length by omega) with rfl | hlt
      · rw [cpy_end] at hB
        have HF := Lib.hid (And.intro hB hbel)
        clear hB hbel
        go_wp2
        go_ret
        exact ⟨_, _, rfl, .inr ⟨_, rfl, Nat.le_refl _, HF.out.1⟩, HF.out.2⟩
      · obtain ⟨b, off, hx, hblt, hc⟩ := HI.out.at hlt
        cases hx
        have hc' := (hbel.cell (p := ⟨b, off + k, none⟩) hblt).trans hc
        have hcl := cpy_length zs k hk
        have hs := hB.int (i := k) (by omega)
        have hf := hB.free k
        have hB2 := hB.put k (nth zs k)
        rw [cpy_step zs k hlt] at hB2
        have HN := Lib.hid (And.intro hB2 (hbel.setCell (p := ⟨w.heap.size, k, none⟩) (Nat.le_refl _) (.int .u32 (nth zs k))))
        clear hB hbel hB2 hc hcl
        go_wp2
        go_roundw
        case rel => exact ⟨k + 1, by omega, by go_num, HN.out.1, HN.out.2⟩
        case measure => simp [intOf]; omega


theorem new_any (x y z : Int) (w : World) : Calls Try.prog 15 #[.int .u32 x, .int .u32 y, .int .u32 z] w fun e w' => e = .returned (.agg #[.int .u32 x, .int .u32 y, .int .u32 z]) ∧ w' = w.alloc (.cells #[.int .u32 x, .int .u32 y, .int .u32 z] 42) := by
  go_enter Try.func15, Try.ntmps15
  go_wp2
  exact bodyPost_ret (v := .agg #[.int .u32 x, .int .u32 y, .int .u32 z]) (by simp [results, Try.results15, go_sem]) rfl ⟨rfl, rfl⟩

theorem info42 : (Try.prog.info? 42).map (fun i => (i.zero, i.size, i.bytes)) = some (some (.agg (ints .u32 (List.replicate 3 0))), 3, 12) := by kernel_rfl

/-- the first k triples are in place -/
def Trip (A B C fl : List Int) (n k : Nat) : Prop := fl.length = 3 * n ∧ ∀ m, m < k → nth fl (m * 3) = nth A m ∧ nth fl (m * 3 + 1) = nth B m ∧ nth fl (m * 3 + 2) = nth C m
theorem trip_step {A B C fl : List Int} {n k : Nat} (h : Trip A B C fl n k) (hk : k < n) : Trip A B C (((fl.set (k * 3) (nth A k)).set (k * 3 + 1) (nth B k)).set (k * 3 + 2) (nth C k)) n (k + 1) := by
  obtain ⟨h1, h2⟩ := h
  refine ⟨by simp [h1], fun m hm => ?_⟩
  have l1 : (fl.set (k * 3) (nth A k)).length = 3 * n := by simp [h1]
  have l2 : ((fl.set (k * 3) (nth A k)).set (k * 3 + 1) (nth B k)).length = 3 * n := by simp [h1]
  have e : ∀ x, nth (((fl.set (k * 3) (nth A k)).set (k * 3 + 1) (nth B k)).set (k * 3 + 2) (nth C k)) x = if x = k * 3 + 2 then nth C k else if x = k * 3 + 1 then nth B k else if x = k * 3 then nth A k else nth fl x := by
    intro x
    rw [nth_set _ _ _ _ (by omega), nth_set _ _ _ _ (by omega), nth_set _ _ _ _ (by omega)]
  simp only [e]
  by_cases c : m = k
  · subst c
    refine ⟨?_, ?_, ?_⟩
    · rw [if_neg (by omega), if_neg (by omega), if_pos rfl]
    · rw [if_neg (by omega), if_pos rfl]
    · rw [if_pos rfl]
  · have := h2 m (by omega)
    refine ⟨?_, ?_, ?_⟩ <;> rw [if_neg (by omega), if_neg (by omega), if_neg (by omega)]
    · exact this.1
    · exact this.2.1
    · exact this.2.2

def Built (A B C : List Int) (n : Nat) (w : World) (e : Ending) (w' : World) : Prop :=
  ∃ g fl, e = .returned (.slice (some ⟨g, 0, none⟩) n n) ∧ w.heap.size ≤ g ∧ Blk w' g 42 (ints .u32 fl) ∧ Trip A B C fl n n ∧ Below w.heap.size w w'

theorem build_any (a0 a1 a2 : Option Addr) (c0 c1 c2 : Nat) (A B C : List Int) (n : Nat) (w : World) (hA : In .u32 w a0 A) (hB : In .u32 w a1 B) (hC : In .u32 w a2 C) (nA : n ≤ A.length) (nB : n ≤ B.length) (nC : n ≤ C.length)
    (lA : A.length ≤ 65536) (lB : B.length ≤ 65536) (lC : C.length ≤ 65536) :
    Calls Try.prog 13 #[.slice a0 A.length c0, .slice a1 B.length c1, .slice a2 C.length c2, .int .i64 n] w (Built A B C n w) := by
  have HI := Lib.hid (And.intro hA (And.intro hB hC))
  clear hA hB hC
  go_enter Try.func13, Try.ntmps13
  go_wp2_with (at_make; refine wpList_make_flat _ rfl _ _ 38 rfl 42 .u32 3 12 (by decide) Try.underlying38 info42 n rfl rfl (by omega) (by unfold maxLen; omega) ?_; intro w1 hb hgr)
  have hb1 : Below w.heap.size w w1 := (Below.refl _ w).grown hgr (Nat.le_refl _) (fun k h => by cases h)
  have HB := Lib.hid (And.intro hb hb1)
  clear hb hgr hb1
  go_loopw [10] (fun i wr => ∃ (k : Nat) (fl : List Int), k ≤ n ∧ i = .int .i64 k ∧ Blk wr w.heap.size 42 (ints .u32 fl) ∧ Trip A B C fl n k ∧ Below w.heap.size w wr) (fun i _ => n - (intOf i).toNat)
  case atStart => exact ⟨0, _, Nat.zero_le _, rfl, HB.out.1, ⟨by simp; omega, fun m hm => by omega⟩, HB.out.2⟩
  case round =>
    obtain ⟨k, fl, hk, rfl, hBk, hT, hbel⟩ := hrel
    rcases (show k = n ∨ k < n by omega) with rfl | hlt
    · have HF := Lib.hid (And.intro hBk (And.intro hT hbel))
      clear hBk hbel hT
      go_wp2
      go_ret
      exact ⟨_, fl, rfl, Nat.le_refl _, HF.out.1, HF.out.2.1, HF.out.2.2⟩
    · obtain ⟨b0, o0, hx0, hlt0, hc0⟩ := HI.out.1.at (i := k) (by omega)
      obtain ⟨b1, o1, hx1, hlt1, hc1⟩ := HI.out.2.1.at (i := k) (by omega)
      obtain ⟨b2, o2, hx2, hlt2, hc2⟩ := HI.out.2.2.at (i := k) (by omega)
      subst hx0 hx1 hx2
      have d0 := (hbel.cell (p := ⟨b0, o0 + k, none⟩) hlt0).trans hc0
      have d1 := (hbel.cell (p := ⟨b1, o1 + k, none⟩) hlt1).trans hc1
      have d2 := (hbel.cell (p := ⟨b2, o2 + k, none⟩) hlt2).trans hc2
      have hs := hbel.size
      have hgl := hBk.lt
      have hfl := hT.1
      have e0 := hBk.int (i := k * 3) (by omega)
      have e1 := hBk.int (i := k * 3 + 1) (by omega)
      have e2 := hBk.int (i := k * 3 + 2) (by omega)
      have f0 := hBk.free (k * 3)
      have f1 := hBk.free (k * 3 + 1)
      have f2 := hBk.free (k * 3 + 2)
      have HN := Lib.hid (And.intro hBk (And.intro hT hbel))
      clear hBk hT hbel hc0 hc1 hc2 hfl
      have ne0 : ¬ b0 = w.heap.size := by omega
      have ne1 : ¬ b1 = w.heap.size := by omega
      have ne2 : ¬ b2 = w.heap.size := by omega
      have mf0 : ¬ b0 = wr.heap.size := by omega
      have mf1 : ¬ b1 = wr.heap.size := by omega
      have mf2 : ¬ b2 = wr.heap.size := by omega
      have mfg : ¬ w.heap.size = wr.heap.size := by omega
      have iA : (k : Int) < (A.length : Int) := by omega
      have iB : (k : Int) < (B.length : Int) := by omega
      have iC : (k : Int) < (C.length : Int) := by omega
      have iN : (k : Int) < (n : Int) := by omega
      have i0 : (0 : Int) ≤ (k : Int) := by omega
      go_wp2
      go_region_held3 (fun w' => w'.cell? ⟨b0, o0 + k, none⟩ = some (.int .u32 (nth A k)) ∧ w'.cell? ⟨b1, o1 + k, none⟩ = some (.int .u32 (nth B k)) ∧ w'.cell? ⟨b2, o2 + k, none⟩ = some (.int .u32 (nth C k))) (first | with_reducible exact ⟨cell_dr (cell_al (cell_sn (cell_sn (cell_sn d0 ne0) ne0) ne0)), cell_dr (cell_al (cell_sn (cell_sn (cell_sn d1 ne1) ne1) ne1)), cell_dr (cell_al (cell_sn (cell_sn (cell_sn d2 ne2) ne2) ne2))⟩ | go_keep) (first | (go_at_call 15; refine (new_any _ _ _ _).mono ?_; rintro e w' ⟨rfl, rfl⟩))
      clear d0 d1 d2 e0 e1 e2 f0 f1 f2 ne0 ne1 ne2 mf0 mf1 mf2 mfg iA iB iC iN i0 HI HB
      go_wp2
      go_roundw
      case rel =>
        refine ⟨k + 1, _, by omega, by go_num, (((HN.out.1.put (k * 3) (nth A k)).put (k * 3 + 1) (nth B k)).put (k * 3 + 2) (nth C k)).alloc _ |>.drew, trip_step HN.out.2.1 hlt, ?_⟩
        exact ((((HN.out.2.2.setCell (Nat.le_refl _) _).setCell (Nat.le_refl _) _).setCell (Nat.le_refl _) _).alloc (by have := HN.out.2.2.size; simpa [World.setCell] using this) _).drew
      case measure => simp [intOf]; omega

/-- element k of the swapped row is element sig k of the old one -/
def sig (i j k : Nat) : Nat := if k = i then j else if k = j then i else k
def Swapped (fl fl' : List Int) (n i j : Nat) : Prop := fl'.length = 3 * n ∧ ∀ k, k < n → nth fl' (k * 3) = nth fl (sig i j k * 3) ∧ nth fl' (k * 3 + 1) = nth fl (sig i j k * 3 + 1) ∧ nth fl' (k * 3 + 2) = nth fl (sig i j k * 3 + 2)
theorem swapped_mk {fl : List Int} {n i j : Nat} (hl : fl.length = 3 * n) (hi : i < n) (hj : j < n) :
    Swapped fl ((((((fl.set (i * 3) (nth fl (j * 3))).set (i * 3 + 1) (nth fl (j * 3 + 1))).set (i * 3 + 2) (nth fl (j * 3 + 2))).set (j * 3) (nth fl (i * 3))).set (j * 3 + 1) (nth fl (i * 3 + 1))).set (j * 3 + 2) (nth fl (i * 3 + 2))) n i j := by
  refine ⟨by simp [hl], fun k hk => ?_⟩
  have e : ∀ x, nth ((((((fl.set (i * 3) (nth fl (j * 3))).set (i * 3 + 1) (nth fl (j * 3 + 1))).set (i * 3 + 2) (nth fl (j * 3 + 2))).set (j * 3) (nth fl (i * 3))).set (j * 3 + 1) (nth fl (i * 3 + 1))).set (j * 3 + 2) (nth fl (i * 3 + 2))) x =
      if x = j * 3 + 2 then nth fl (i * 3 + 2) else if x = j * 3 + 1 then nth fl (i * 3 + 1) else if x = j * 3 then nth fl (i * 3) else if x = i * 3 + 2 then nth fl (j * 3 + 2) else if x = i * 3 + 1 then nth fl (j * 3 + 1) else if x = i * 3 then nth fl (j * 3) else nth fl x := by
    intro x
    rw [nth_set _ _ _ _ (by simp; omega), nth_set _ _ _ _ (by simp; omega), nth_set _ _ _ _ (by simp; omega), nth_set _ _ _ _ (by simp; omega), nth_set _ _ _ _ (by simp; omega), nth_set _ _ _ _ (by omega)]
  simp only [e, sig]
  by_cases c1 : k = i
  · subst c1
    by_cases c2 : k = j
    · subst c2
      refine ⟨?_, ?_, ?_⟩ <;> (repeat' split) <;> first | rfl | omega
    · refine ⟨?_, ?_, ?_⟩ <;> (repeat' split) <;> first | rfl | omega
  · by_cases c2 : k = j
    · subst c2
      refine ⟨?_, ?_, ?_⟩ <;> (repeat' split) <;> first | rfl | omega
    · refine ⟨?_, ?_, ?_⟩ <;> (repeat' split) <;> first | rfl | omega

theorem swap_any (g n i j : Nat) (fl : List Int) (w : World) (hb : Blk w g 42 (ints .u32 fl)) (hl : fl.length = 3 * n) (hi : i < n) (hj : j < n) (hn : n ≤ 65536) :
    Calls Try.prog 14 #[.slice (some ⟨g, 0, none⟩) n n, .int .i64 i, .int .i64 j] w fun e w' => e = .returned (.tuple #[]) ∧ (∃ fl', Blk w' g 42 (ints .u32 fl') ∧ Swapped fl fl' n i j) ∧ w.grownBy w' (some g) := by
  have HR := Lib.hid ((((((hb.put (i * 3) (nth fl (j * 3))).put (i * 3 + 1) (nth fl (j * 3 + 1))).put (i * 3 + 2) (nth fl (j * 3 + 2))).put (j * 3) (nth fl (i * 3))).put (j * 3 + 1) (nth fl (i * 3 + 1))).put (j * 3 + 2) (nth fl (i * 3 + 2))).drew
  have HG := Lib.hid (gb_drew (gb_set (gb_set (gb_set (gb_set (gb_set (gb_set (gb_refl w (some g)) (i * 3) none (.int .u32 (nth fl (j * 3)))) (i * 3 + 1) none (.int .u32 (nth fl (j * 3 + 1)))) (i * 3 + 2) none (.int .u32 (nth fl (j * 3 + 2)))) (j * 3) none (.int .u32 (nth fl (i * 3)))) (j * 3 + 1) none (.int .u32 (nth fl (i * 3 + 1)))) (j * 3 + 2) none (.int .u32 (nth fl (i * 3 + 2)))))
  have HS := Lib.hid (swapped_mk hl hi hj)
  have i0 := hb.int (i := i * 3) (by omega)
  have i1 := hb.int (i := i * 3 + 1) (by omega)
  have i2 := hb.int (i := i * 3 + 2) (by omega)
  have j0 := hb.int (i := j * 3) (by omega)
  have j1 := hb.int (i := j * 3 + 1) (by omega)
  have j2 := hb.int (i := j * 3 + 2) (by omega)
  have fi0 := hb.free (i * 3)
  have fi1 := hb.free (i * 3 + 1)
  have fi2 := hb.free (i * 3 + 2)
  have fj0 := hb.free (j * 3)
  have fj1 := hb.free (j * 3 + 1)
  have fj2 := hb.free (j * 3 + 2)
  clear hb hl
  by_cases hij : i = j
  · subst hij
    clear j0 j1 j2 fj0 fj1 fj2 hj
    go_enter Try.func14, Try.ntmps14
    go_wp2
    go_region
    go_end0
    exact ⟨rfl, ⟨_, HR.out, HS.out⟩, HG.out⟩
  · have n1 : ¬ j * 3 = i * 3 := by omega
    have n2 : ¬ j * 3 = i * 3 + 1 := by omega
    have n3 : ¬ j * 3 = i * 3 + 2 := by omega
    have n4 : ¬ j * 3 + 1 = i * 3 := by omega
    have n5 : ¬ j * 3 + 1 = i * 3 + 1 := by omega
    have n6 : ¬ j * 3 + 1 = i * 3 + 2 := by omega
    have n7 : ¬ j * 3 + 2 = i * 3 := by omega
    have n8 : ¬ j * 3 + 2 = i * 3 + 1 := by omega
    have n9 : ¬ j * 3 + 2 = i * 3 + 2 := by omega
    go_enter Try.func14, Try.ntmps14
    go_wp2
    go_region
    go_end0
    exact ⟨rfl, ⟨_, HR.out, HS.out⟩, HG.out⟩

theorem min_any (a b c n : Nat) (w : World) (hn : n = min (min a b) c) : Calls Try.prog 11 #[.int .i64 a, .int .i64 b, .int .i64 c] w fun e w' => e = .returned (.int .i64 n) ∧ w = w' := by
  by_cases h1 : b < a <;> by_cases h2 : c < min a b
  all_goals
    have HN := Lib.hid hn
    clear hn
    rw [Nat.min_def] at h2
    split at h2
  all_goals
    try omega
  all_goals
    go_enter Try.func11, Try.ntmps11
    go_wp2
    go_ret
    exact ⟨ret_int (by have := HN.out; rw [Nat.min_def, Nat.min_def] at this; (repeat' split at this) <;> omega), rfl⟩

set_option maxHeartbeats 400000 in
theorem bad1 (a0 a1 a2 : Option Addr) (c0 c1 c2 : Nat) (A B C : List Int) (i j : Int) (w : World) (mA : A.length ≤ 9223372036854775807) (mB : B.length ≤ 9223372036854775807) (mC : C.length ≤ 9223372036854775807) (h : 65536 < A.length) :
    Calls Try.prog 4 #[.slice a0 A.length c0, .slice a1 B.length c1, .slice a2 C.length c2, .int .i64 i, .int .i64 j] w fun e w' => e = .returned (.bool true) ∧ Below w.heap.size w w' := by
  go_enter Try.func4, Try.ntmps4
  go_wp2
  all_goals go_ret
  all_goals exact ⟨rfl, Below.refl _ _⟩
set_option maxHeartbeats 400000 in
theorem bad2 (a0 a1 a2 : Option Addr) (c0 c1 c2 : Nat) (A B C : List Int) (i j : Int) (w : World) (mA : A.length ≤ 9223372036854775807) (mB : B.length ≤ 9223372036854775807) (mC : C.length ≤ 9223372036854775807) (h : 65536 < B.length) :
    Calls Try.prog 4 #[.slice a0 A.length c0, .slice a1 B.length c1, .slice a2 C.length c2, .int .i64 i, .int .i64 j] w fun e w' => e = .returned (.bool true) ∧ Below w.heap.size w w' := by
  go_enter Try.func4, Try.ntmps4
  go_wp2
  all_goals go_ret
  all_goals exact ⟨rfl, Below.refl _ _⟩
set_option maxHeartbeats 400000 in
theorem bad3 (a0 a1 a2 : Option Addr) (c0 c1 c2 : Nat) (A B C : List Int) (i j : Int) (w : World) (mA : A.length ≤ 9223372036854775807) (mB : B.length ≤ 9223372036854775807) (mC : C.length ≤ 9223372036854775807) (h : 65536 < C.length) :
    Calls Try.prog 4 #[.slice a0 A.length c0, .slice a1 B.length c1, .slice a2 C.length c2, .int .i64 i, .int .i64 j] w fun e w' => e = .returned (.bool true) ∧ Below w.heap.size w w' := by
  go_enter Try.func4, Try.ntmps4
  go_wp2
  all_goals go_ret
  all_goals exact ⟨rfl, Below.refl _ _⟩
set_option maxHeartbeats 400000 in
theorem bad4 (a0 a1 a2 : Option Addr) (c0 c1 c2 : Nat) (A B C : List Int) (i j : Int) (w : World) (mA : A.length ≤ 9223372036854775807) (mB : B.length ≤ 9223372036854775807) (mC : C.length ≤ 9223372036854775807) (lA : A.length ≤ 65536) (lB : B.length ≤ 65536) (lC : C.length ≤ 65536) (h : 1048576 < 4 * (A.length + B.length + C.length)) :
    Calls Try.prog 4 #[.slice a0 A.length c0, .slice a1 B.length c1, .slice a2 C.length c2, .int .i64 i, .int .i64 j] w fun e w' => e = .returned (.bool true) ∧ Below w.heap.size w w' := by
  go_enter Try.func4, Try.ntmps4
  go_wp2
  all_goals go_ret
  all_goals exact ⟨rfl, Below.refl _ _⟩
/-- the two size looks pass -/
theorem bytes_any (a0 a1 a2 : Option Addr) (c0 c1 c2 : Nat) (A B C : List Int) (i j : Int) (w : World) (lA : A.length ≤ 65536) (lB : B.length ≤ 65536) (lC : C.length ≤ 65536) : Calls Try.prog 9 #[.slice a0 A.length c0, .slice a1 B.length c1, .slice a2 C.length c2, .int .i64 i, .int .i64 j] w fun e w' => e = .returned (.bool true) ∧ w = w' := by
  go_enter Try.func9, Try.ntmps9
  go_wp2
  go_ret
  exact ⟨rfl, rfl⟩
theorem small_any (a0 a1 a2 : Option Addr) (c0 c1 c2 : Nat) (A B C : List Int) (w : World) (lA : A.length ≤ 65536) (lB : B.length ≤ 65536) (lC : C.length ≤ 65536) (lS : 4 * (A.length + B.length + C.length) ≤ 1048576) : Calls Try.prog 10 #[.slice a0 A.length c0, .slice a1 B.length c1, .slice a2 C.length c2] w fun e w' => e = .returned (.bool false) ∧ w = w' := by
  go_enter Try.func10, Try.ntmps10
  go_wp2
  go_ret
  exact ⟨ret_bool (by simp; omega), rfl⟩
theorem out_any (a0 a1 a2 : Option Addr) (c0 c1 c2 : Nat) (A B C : List Int) (i j : Int) (w : World) (n : Nat) (HN : Hid (n = min (min A.length B.length) C.length)) (nA : n ≤ A.length) (lA : A.length ≤ 65536) (lB : B.length ≤ 65536) (lC : C.length ≤ 65536) (lS : 4 * (A.length + B.length + C.length) ≤ 1048576)
    (h : i < 0 ∨ (0 ≤ i ∧ (n : Int) ≤ i) ∨ (0 ≤ i ∧ i < n ∧ j < 0) ∨ (0 ≤ i ∧ i < n ∧ 0 ≤ j ∧ (n : Int) ≤ j)) :
    Calls Try.prog 4 #[.slice a0 A.length c0, .slice a1 B.length c1, .slice a2 C.length c2, .int .i64 i, .int .i64 j] w fun e w' => e = .returned (.bool true) ∧ Below w.heap.size w w' := by
  rcases h with h | ⟨h1, h2⟩ | ⟨h1, h2, h3⟩ | ⟨h1, h2, h3, h4⟩
  all_goals
    go_enter Try.func4, Try.ntmps4
    go_wp2_with (first | (go_at_call 9; refine (bytes_any _ _ _ _ _ _ A B C _ _ _ lA lB lC).mono ?_; rintro e w' ⟨rfl, rfl⟩) | (go_at_call 10; refine (small_any _ _ _ _ _ _ A B C _ lA lB lC lS).mono ?_; rintro e w' ⟨rfl, rfl⟩) | (go_at_call 11; refine (min_any _ _ _ n _ HN.out).mono ?_; rintro e w' ⟨rfl, rfl⟩))
    go_ret
    exact ⟨rfl, Below.refl _ _⟩
set_option maxHeartbeats 1000000 in
theorem good (a0 a1 a2 : Option Addr) (c0 c1 c2 : Nat) (A B C : List Int) (i j n : Nat) (w : World) (HI : Hid (In .u32 w a0 A ∧ In .u32 w a1 B ∧ In .u32 w a2 C)) (HN : Hid (n = min (min A.length B.length) C.length)) (nA : n ≤ A.length) (nB : n ≤ B.length) (nC : n ≤ C.length)
    (lA : A.length ≤ 65536) (lB : B.length ≤ 65536) (lC : C.length ≤ 65536) (lS : 4 * (A.length + B.length + C.length) ≤ 1048576) (hi : i < n) (hj : j < n) :
    Calls Try.prog 4 #[.slice a0 A.length c0, .slice a1 B.length c1, .slice a2 C.length c2, .int .i64 i, .int .i64 j] w fun e w' => e = .returned (.bool true) ∧ Below w.heap.size w w' := by
  go_enter Try.func4, Try.ntmps4
  go_wp2_with (first | (go_at_call 9; refine (bytes_any _ _ _ _ _ _ A B C _ _ _ lA lB lC).mono ?_; rintro e w' ⟨rfl, rfl⟩) | (go_at_call 10; refine (small_any _ _ _ _ _ _ A B C _ lA lB lC lS).mono ?_; rintro e w' ⟨rfl, rfl⟩) | (go_at_call 11; refine (min_any _ _ _ n _ HN.out).mono ?_; rintro e w' ⟨rfl, rfl⟩))
  refine (copy_any a0 c0 A _ HI.out.1 (by omega)).mono ?_
  rintro e w1 ⟨p0, d0, rfl, k0, b1⟩
  have I0 := Cloned.in' k0
  have I1 := HI.out.2.1.kept b1
  have I2 := HI.out.2.2.kept b1
  have K := Lib.hid (And.intro I0 (And.intro I1 (And.intro I2 b1)))
  clear k0 b1 I0 I1 I2 HI
  go_wp2_with fail
  refine (copy_any a1 c1 B _ K.out.2.1 (by omega)).mono ?_
  rintro e w2 ⟨p1, d1, rfl, k1, b2⟩
  have I0 := K.out.1.kept b2
  have I1 := Cloned.in' k1
  have I2 := K.out.2.2.1.kept b2
  have N2 := below_two K.out.2.2.2 b2
  have K := Lib.hid (And.intro I0 (And.intro I1 (And.intro I2 N2)))
  clear k1 b2 I0 I1 I2 N2
  go_wp2_with fail
  refine (copy_any a2 c2 C _ K.out.2.2.1 (by omega)).mono ?_
  rintro e w3 ⟨p2, d2, rfl, k2, b3⟩
  have I0 := K.out.1.kept b3
  have I1 := K.out.2.1.kept b3
  have I2 := Cloned.in' k2
  have N3 := below_two K.out.2.2.2 b3
  have K := Lib.hid (And.intro I0 (And.intro I1 (And.intro I2 N3)))
  clear k2 b3 I0 I1 I2 N3
  go_wp2_with fail
  refine (build_any p0 p1 p2 d0 d1 d2 A B C n _ K.out.1 K.out.2.1 K.out.2.2.1 nA nB nC lA lB lC).mono ?_
  rintro e w4 ⟨g, fl, rfl, hg, hB4, hT, b4⟩
  have hTl := hT.1
  have K4 := Lib.hid (And.intro K.out (And.intro b4 (And.intro hB4 hT)))
  have z3 := K.out.2.2.2.size
  clear b4 hB4 hT
  go_wp2_with fail
  refine (swap_any g n i j fl _ K4.out.2.2.1 hTl hi hj (by omega)).mono ?_
  rintro e w5 ⟨rfl, ⟨fl', hB5, hS⟩, hg5⟩
  have I0 := K4.out.1.1.past K4.out.2.1 hg5 hg
  have I1 := K4.out.1.2.1.past K4.out.2.1 hg5 hg
  have I2 := K4.out.1.2.2.1.past K4.out.2.1 hg5 hg
  have N5 : Below w.heap.size w w5 := below_gb (below_two K4.out.1.2.2.2 K4.out.2.1) hg5 (by have := K4.out.2.1.size; omega) (by omega)
  have hE : ∀ k, k < n → nth fl' (k * 3) = nth A (sig i j k) ∧ nth fl' (k * 3 + 1) = nth B (sig i j k) ∧ nth fl' (k * 3 + 2) = nth C (sig i j k) := by
    intro k hk
    have hs : sig i j k < n := by unfold sig; (repeat' split) <;> omega
    have a := hS.2 k hk
    have b := K4.out.2.2.2.2 (sig i j k) hs
    exact ⟨a.1.trans b.1, a.2.1.trans b.2.1, a.2.2.trans b.2.2⟩
  have Q := Lib.hid (And.intro I0 (And.intro I1 (And.intro I2 (And.intro N5 (And.intro hB5 (And.intro hS.1 hE))))))
  clear I0 I1 I2 N5 hB5 hS hE hg5 K4 K HN
  go_wp2_with fail
  go_loopw [13, 14] (fun x _ wr => ∃ k : Nat, k ≤ n ∧ x = .int .i64 k ∧ Below w5.heap.size w5 wr) (fun x _ _ => n - (intOf x).toNat)
  case atStart => exact ⟨0, Nat.zero_le _, rfl, Below.refl _ _⟩
  case round =>
    obtain ⟨k, hk, rfl, hbel⟩ := hrel
    rcases (show k = n ∨ k < n by omega) with rfl | hlt
    · have HF := Lib.hid (below_two Q.out.2.2.2.1 hbel)
      clear hbel
      go_wp2
      go_ret
      exact ⟨rfl, HF.out⟩
    · obtain ⟨wt, hwt⟩ : ∃ wt, wt = sig i j k := ⟨_, rfl⟩
      have hwl : wt < n := by rw [hwt]; unfold sig; (repeat' split) <;> omega
      obtain ⟨q0, o0, hx0, hlt0, hc0⟩ := (Q.out.1.kept hbel).at (i := wt) (by omega)
      obtain ⟨q1, o1, hx1, hlt1, hc1⟩ := (Q.out.2.1.kept hbel).at (i := wt) (by omega)
      obtain ⟨q2, o2, hx2, hlt2, hc2⟩ := (Q.out.2.2.1.kept hbel).at (i := wt) (by omega)
      subst hx0 hx1 hx2
      have hBr := Q.out.2.2.2.2.1.kept hbel
      have hfl := Q.out.2.2.2.2.2.1
      have hEk := Q.out.2.2.2.2.2.2 k hlt
      rw [← hwt] at hEk
      have e0 := hBr.int (i := k * 3) (by omega)
      have e1 := hBr.int (i := k * 3 + 1) (by omega)
      have e2 := hBr.int (i := k * 3 + 2) (by omega)
      rw [hEk.1] at e0
      rw [hEk.2.1] at e1
      rw [hEk.2.2] at e2
      have HBel := Lib.hid hbel
      have iA : (wt : Int) < (A.length : Int) := by omega
      have iB : (wt : Int) < (B.length : Int) := by omega
      have iC : (wt : Int) < (C.length : Int) := by omega
      have iN : (k : Int) < (n : Int) := by omega
      have i0 : (0 : Int) ≤ (wt : Int) := by omega
      have i1 : (0 : Int) ≤ (k : Int) := by omega
      have mfg := hBr.lt
      have mq0 : ¬ q0 = wr.heap.size := by omega
      have mq1 : ¬ q1 = wr.heap.size := by omega
      have mq2 : ¬ q2 = wr.heap.size := by omega
      have mqg : ¬ g = wr.heap.size := by omega
      clear hbel hBr hfl hEk
      have hsplit : (wt = j ∧ ((k : Int) == (i : Int)) = true) ∨ (wt = i ∧ ((k : Int) == (i : Int)) = false ∧ ((k : Int) == (j : Int)) = true) ∨ (wt = k ∧ ((k : Int) == (i : Int)) = false ∧ ((k : Int) == (j : Int)) = false) := by
        unfold sig at hwt
        by_cases c1 : k = i
        · left; rw [if_pos c1] at hwt; exact ⟨hwt, by simp; omega⟩
        · rw [if_neg c1] at hwt
          by_cases c2 : k = j
          · right; left; rw [if_pos c2] at hwt; exact ⟨hwt, by simp; omega, by simp; omega⟩
          · right; right; rw [if_neg c2] at hwt; exact ⟨hwt, by simp; omega, by simp; omega⟩
      clear hwt
      rcases hsplit with ⟨rfl, t1⟩ | ⟨rfl, t1, t2⟩ | ⟨rfl, t1, t2⟩
      · go_wp2
        go_region_held3 (fun w' => (w'.cell? ⟨g, k * 3, none⟩ = some (.int .u32 (nth A wt)) ∧ w'.cell? ⟨g, k * 3 + 1, none⟩ = some (.int .u32 (nth B wt)) ∧ w'.cell? ⟨g, k * 3 + 2, none⟩ = some (.int .u32 (nth C wt))) ∧ w'.cell? ⟨q0, o0 + wt, none⟩ = some (.int .u32 (nth A wt)) ∧ w'.cell? ⟨q1, o1 + wt, none⟩ = some (.int .u32 (nth B wt)) ∧ w'.cell? ⟨q2, o2 + wt, none⟩ = some (.int .u32 (nth C wt))) (go_keep) (first | (go_at_call 15; refine (new_any _ _ _ _).mono ?_; rintro e w' ⟨rfl, rfl⟩))
        go_wp2
        go_roundw
        case rel => exact ⟨k + 1, by omega, by go_num, (HBel.out.alloc HBel.out.size _).drew⟩
        case measure => simp [intOf]; omega
      · go_wp2
        go_region_held3 (fun w' => (w'.cell? ⟨g, k * 3, none⟩ = some (.int .u32 (nth A wt)) ∧ w'.cell? ⟨g, k * 3 + 1, none⟩ = some (.int .u32 (nth B wt)) ∧ w'.cell? ⟨g, k * 3 + 2, none⟩ = some (.int .u32 (nth C wt))) ∧ w'.cell? ⟨q0, o0 + wt, none⟩ = some (.int .u32 (nth A wt)) ∧ w'.cell? ⟨q1, o1 + wt, none⟩ = some (.int .u32 (nth B wt)) ∧ w'.cell? ⟨q2, o2 + wt, none⟩ = some (.int .u32 (nth C wt))) (go_keep) (first | (go_at_call 15; refine (new_any _ _ _ _).mono ?_; rintro e w' ⟨rfl, rfl⟩))
        go_wp2
        go_roundw
        case rel => exact ⟨k + 1, by omega, by go_num, (HBel.out.alloc HBel.out.size _).drew⟩
        case measure => simp [intOf]; omega
      · go_wp2
        go_region_held3 (fun w' => (w'.cell? ⟨g, wt * 3, none⟩ = some (.int .u32 (nth A wt)) ∧ w'.cell? ⟨g, wt * 3 + 1, none⟩ = some (.int .u32 (nth B wt)) ∧ w'.cell? ⟨g, wt * 3 + 2, none⟩ = some (.int .u32 (nth C wt))) ∧ w'.cell? ⟨q0, o0 + wt, none⟩ = some (.int .u32 (nth A wt)) ∧ w'.cell? ⟨q1, o1 + wt, none⟩ = some (.int .u32 (nth B wt)) ∧ w'.cell? ⟨q2, o2 + wt, none⟩ = some (.int .u32 (nth C wt))) (go_keep) (first | (go_at_call 15; refine (new_any _ _ _ _).mono ?_; rintro e w' ⟨rfl, rfl⟩))
        go_wp2
        go_roundw
        case rel => exact ⟨wt + 1, by omega, by go_num, (HBel.out.alloc HBel.out.size _).drew⟩
        case measure => simp [intOf]; omega

theorem main (a0 a1 a2 : Option Addr) (c0 c1 c2 : Nat) (A B C : List Int) (i j : Int) (w : World) (hA : In .u32 w a0 A) (hB : In .u32 w a1 B) (hC : In .u32 w a2 C) (mA : A.length ≤ maxLen) (mB : B.length ≤ maxLen) (mC : C.length ≤ maxLen) :
    Calls Try.prog 4 #[.slice a0 A.length c0, .slice a1 B.length c1, .slice a2 C.length c2, .int .i64 i, .int .i64 j] w fun e w' => e = .returned (.bool true) ∧ Below w.heap.size w w' := by
  unfold maxLen at mA mB mC
  have hA' : A.length ≤ 9223372036854775807 := by omega
  have hB' : B.length ≤ 9223372036854775807 := by omega
  have hC' : C.length ≤ 9223372036854775807 := by omega
  by_cases lA : A.length ≤ 65536
  rotate_left
  · exact bad1 a0 a1 a2 c0 c1 c2 A B C i j w hA' hB' hC' (by omega)
  by_cases lB : B.length ≤ 65536
  rotate_left
  · exact bad2 a0 a1 a2 c0 c1 c2 A B C i j w hA' hB' hC' (by omega)
  by_cases lC : C.length ≤ 65536
  rotate_left
  · exact bad3 a0 a1 a2 c0 c1 c2 A B C i j w hA' hB' hC' (by omega)
  by_cases lS : 4 * (A.length + B.length + C.length) ≤ 1048576
  rotate_left
  · exact bad4 a0 a1 a2 c0 c1 c2 A B C i j w hA' hB' hC' lA lB lC (by omega)
  obtain ⟨n, hn⟩ : ∃ n, n = min (min A.length B.length) C.length := ⟨_, rfl⟩
  by_cases hr : 0 ≤ i ∧ i < n ∧ 0 ≤ j ∧ j < n
  · obtain ⟨g1, g2, g3, g4⟩ := hr
    obtain ⟨i, rfl⟩ := Int.eq_ofNat_of_zero_le g1
    obtain ⟨j, rfl⟩ := Int.eq_ofNat_of_zero_le g3
    exact good a0 a1 a2 c0 c1 c2 A B C i j n w (Lib.hid ⟨hA, hB, hC⟩) (Lib.hid hn) (by omega) (by omega) (by omega) lA lB lC lS (by omega) (by omega)
  · exact out_any a0 a1 a2 c0 c1 c2 A B C i j w n (Lib.hid hn) (by omega) lA lB lC lS (by omega)

theorem walk (a0 : Option Addr) (len0 cap0 : Nat) (z0 : List Int) (a1 : Option Addr) (len1 cap1 : Nat) (z1 : List Int) (a2 : Option Addr) (len2 cap2 : Nat) (z2 : List Int) (a3 : Int) (a4 : Int) (w : World) (w0 : IsRow .u32 w a0 len0 cap0 z0) (w1 : IsRow .u32 w a1 len1 cap1 z1) (w2 : IsRow .u32 w a2 len2 cap2 z2) (w3 : (Lit.int .i64 a3).wf = true) (w4 : (Lit.int .i64 a4).wf = true) :
    Calls Try.prog 4 #[.slice a0 len0 cap0, .slice a1 len1 cap1, .slice a2 len2 cap2, .int .i64 a3, .int .i64 a4] w fun e w' => e = .returned (.bool true) ∧ Below w.heap.size w w' := by
  obtain ⟨A, hzA, hA, mA⟩ := row_in w0
  obtain ⟨B, hzB, hB, mB⟩ := row_in w1
  obtain ⟨C, hzC, hC, mC⟩ := row_in w2
  subst hzA hzB hzC
  exact main a0 a1 a2 cap0 cap1 cap2 A B C a3 a4 w hA hB hC mA mB mC

set_option maxRecDepth 100000 in
theorem lifted (os : Os) (started : os.Started) (H : Type) (enc : TypeId × Value → H) :
    ReturnsInHanded {} Try.checked os 4 .any (Rows.fnStableRefArraySwapExactSpec.pre6 enc Try.prog Try.f4 Rows.fnStableRefArraySwapExactRow.domain false) (Rows.fnStableRefArraySwapExactSpec.post enc Try.prog Try.f4 false true false false) := by
  refine returnsInHanded_of_change (C := Try.checked) own started (by kernel_rfl) Try.func4
    (ChangeSpec.witness6 (enc := enc) (C := Try.checked) false ⟨#[], #[.slice none 0 0, .slice none 0 0, .slice none 0 0, .int .i64 0, .int .i64 0], []⟩ 8 (by kernel_rfl) (by kernel_rfl) (by kernel_rfl) (by kernel_rfl)) ?_
  intro W base args ds gs before hval0 hW hcnd _
  have hval : ∀ (j : Nat) t v, Try.f4.params[j]? = some t → args[j]? = some v → Value.okWide Try.prog W .any base t v := hval0
  have hW' := hW
  obtain ⟨p, q, hA0, hV, rfl, hfz, hnd⟩ := hW
  have hA : DataW.TrodAll enc Try.prog W 0 (fun _ => true) true Try.f4.params.toList args.toList ds p := hA0
  rw [Try.params4] at hA hval
  obtain ⟨v0, vs0, d0, ds0, p0, q0, hargs, rfl, rfl, h0, r0⟩ := trodAll_cons hA
  obtain ⟨v1, vs1, d1, ds1, p1, q1, rfl, rfl, rfl, h1, r1⟩ := trodAll_cons r0
  obtain ⟨v2, vs2, d2, ds2, p2, q2, rfl, rfl, rfl, h2, r2⟩ := trodAll_cons r1
  obtain ⟨v3, vs3, d3, ds3, p3, q3, rfl, rfl, rfl, h3, r3⟩ := trodAll_cons r2
  obtain ⟨v4, vs4, d4, ds4, p4, q4, rfl, rfl, rfl, h4, r4⟩ := trodAll_cons r3
  obtain ⟨rfl, rfl, rfl⟩ := trodAll_nil r4
  obtain rfl : args = #[v0, v1, v2, v3, v4] := by cases args; simp_all
  obtain ⟨rfl, rfl⟩ := trodVars_none hV
  obtain ⟨a0, len0, cap0, rfl⟩ := okWide_slice Try.underlying32 (hval 0 32 v0 rfl rfl)
  have k0 := h0
  have lt0 : ∀ x ∈ p0, x.block < W.heap.size := by obtain ⟨m, hm⟩ := k0; exact DataW.trod_lt m _ _ _ hm
  obtain ⟨z0, w0⟩ : ∃ zs, IsRow .u32 W a0 len0 cap0 zs := by
    obtain ⟨fuel, hf⟩ := h0
    rcases open_ints Try.underlying32 Try.underlying22 (by kernel_rfl) hf with ⟨hcs, _⟩ | ⟨x, l, c, zs, hcs, _, hl, hm, hz, _, hcell, hwz⟩
    · simp [Value.cells] at hcs
      obtain ⟨rfl, rfl, rfl⟩ := hcs
      exact ⟨[], .inl ⟨rfl, rfl, rfl, rfl⟩⟩
    · simp [Value.cells] at hcs
      obtain ⟨rfl, rfl, rfl⟩ := hcs
      exact ⟨zs, .inr ⟨_, rfl, hl, hm, by simpa using hz, hcell, hwz⟩⟩
  obtain ⟨a1, len1, cap1, rfl⟩ := okWide_slice Try.underlying32 (hval 1 32 v1 rfl rfl)
  have k1 := h1
  have lt1 : ∀ x ∈ p1, x.block < W.heap.size := by obtain ⟨m, hm⟩ := k1; exact DataW.trod_lt m _ _ _ hm
  obtain ⟨z1, w1⟩ : ∃ zs, IsRow .u32 W a1 len1 cap1 zs := by
    obtain ⟨fuel, hf⟩ := h1
    rcases open_ints Try.underlying32 Try.underlying22 (by kernel_rfl) hf with ⟨hcs, _⟩ | ⟨x, l, c, zs, hcs, _, hl, hm, hz, _, hcell, hwz⟩
    · simp [Value.cells] at hcs
      obtain ⟨rfl, rfl, rfl⟩ := hcs
      exact ⟨[], .inl ⟨rfl, rfl, rfl, rfl⟩⟩
    · simp [Value.cells] at hcs
      obtain ⟨rfl, rfl, rfl⟩ := hcs
      exact ⟨zs, .inr ⟨_, rfl, hl, hm, by simpa using hz, hcell, hwz⟩⟩
  obtain ⟨a2, len2, cap2, rfl⟩ := okWide_slice Try.underlying32 (hval 2 32 v2 rfl rfl)
  have k2 := h2
  have lt2 : ∀ x ∈ p2, x.block < W.heap.size := by obtain ⟨m, hm⟩ := k2; exact DataW.trod_lt m _ _ _ hm
  obtain ⟨z2, w2⟩ : ∃ zs, IsRow .u32 W a2 len2 cap2 zs := by
    obtain ⟨fuel, hf⟩ := h2
    rcases open_ints Try.underlying32 Try.underlying22 (by kernel_rfl) hf with ⟨hcs, _⟩ | ⟨x, l, c, zs, hcs, _, hl, hm, hz, _, hcell, hwz⟩
    · simp [Value.cells] at hcs
      obtain ⟨rfl, rfl, rfl⟩ := hcs
      exact ⟨[], .inl ⟨rfl, rfl, rfl, rfl⟩⟩
    · simp [Value.cells] at hcs
      obtain ⟨rfl, rfl, rfl⟩ := hcs
      exact ⟨zs, .inr ⟨_, rfl, hl, hm, by simpa using hz, hcell, hwz⟩⟩
  obtain ⟨a3, rfl, rfl, rfl, w3⟩ := open_int Try.underlying3 (hval 3 3 v3 rfl rfl) h3
  obtain ⟨a4, rfl, rfl, rfl, w4⟩ := open_int Try.underlying3 (hval 4 3 v4 rfl rfl) h4
  clear hA0 hval0
  refine (walk a0 len0 cap0 z0 a1 len1 cap1 z1 a2 len2 cap2 z2 a3 a4 W w0 w1 w2 w3 w4).mono fun e W' ⟨he, bel⟩ => ?_
  subst he
  exact ⟨_, rfl, _, _, _, [], _, [], hW', trodAll_mk1 (shut_bool Try.underlying4 _), (trodAll_cons_mk (Below.trod laidOut (by kernel_rfl) (of_decide_eq_true (by kernel_rfl)) k0 bel lt0) (trodAll_cons_mk (Below.trod laidOut (by kernel_rfl) (of_decide_eq_true (by kernel_rfl)) k1 bel lt1) (trodAll_cons_mk (Below.trod laidOut (by kernel_rfl) (of_decide_eq_true (by kernel_rfl)) k2 bel lt2) (trodAll_cons_mk (shut_int Try.underlying3 w3) (trodAll_cons_mk (shut_int Try.underlying3 w4) trodAll_mk0))))), rfl, bel.frame _, fun h => by cases h⟩

theorem over : Rows.fnStableRefArraySwapExactRow.holds Try.pinned (OpenSpec.ofChange Rows.fnStableRefArraySwapExactSpec) :=
  OpenClaim.holds_of_wide 4 Try.f4 rfl rfl rfl rfl rfl rfl rfl ⟨rfl, rfl, rfl, rfl, rfl⟩ rfl rfl rfl rfl rfl (by kernel_rfl) Try.func4 (by kernel_rfl)
    (of_decide_eq_true (by kernel_rfl)) (by unfold Func.isWrapper; first | (rw [if_pos (by decide +kernel)]; kernel_rfl) | (rw [if_neg (by decide +kernel)]; exact ⟨rfl, rfl⟩))
    (fun os started H enc _ => lifted os started H enc)

/-- THE STATEMENT -/
theorem proved : Rows.FnStableRefArraySwapExactSaid := over
#print axioms proved
end Go.Proofs.Ytbicjmaogbaldab.fnStableRefArraySwapExact
