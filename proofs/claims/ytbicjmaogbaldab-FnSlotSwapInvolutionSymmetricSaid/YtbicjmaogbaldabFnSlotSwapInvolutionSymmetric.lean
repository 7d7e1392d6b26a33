/-
  For all lists of equal length and all i, j in range the law FnSlotSwapInvolutionSymmetric returns true: Swap(i, j) equals Swap(j, i), and swapping twice restores the lists (and it returns true outside those bounds). No conditions.
-/
import Derived.Test.YtbicjmaogbaldabRows
import Derived.WalkKit
import Derived.ProofKit
import Derived.OpenShut
import Derived.ShutString
import Derived.ChangeOld
import Derived.Below
import Derived.WalkSpells
import Derived.WalkLawsBesides
import Derived.LoopTactic
import Derived.RegionTactic
import Derived.BigRegion
import Derived.ChangeAlike
import Derived.Deep.RegionHeld3
import Derived.Laws.StructEq
import Derived.Test.YtbicjmaogbaldabInts
namespace Go.Proofs.Ytbicjmaogbaldab.fnSlotSwapInvolutionSymmetric
open Go.ChangeShapes Go.WideShapes Go.ChangeAt Go.RowKit
open Go.ChangeMaps (open_string shut_string)
set_option linter.unusedVariables false

theorem own : ownKnob Try.prog.godebug = none := by kernel_rfl
theorem laidOut : laidOutB Try.prog = true := by kernel_rfl

/-- WHAT THE WALK IS TOLD OF A SLICE OF INTEGERS THAT CAME IN: it is nil; or it leads to a row of 'cap' cells, the numbers 'zs' (the first 'len' are its elements, the rest its spare room), each fitting its kind. -/
def IsRow (k : IntKind) (w : World) (a : Option Addr) (len cap : Nat) (zs : List Int) : Prop :=
  (a = none ∧ len = 0 ∧ cap = 0 ∧ zs = []) ∨
  ∃ x, a = some x ∧ len ≤ cap ∧ cap ≤ maxLen ∧ zs.length = cap ∧ (∀ i, i < zs.length → w.cell? (x.add i) = some (.int k (zs.getD i 0))) ∧ ∀ n ∈ zs, (Lit.int k n).wf = true

theorem row_in {k : IntKind} {w : World} {a : Option Addr} {len cap : Nat} {z : List Int} (h : IsRow k w a len cap z) : ∃ zs : List Int, zs.length = len ∧ In k w a zs ∧ zs.length ≤ maxLen := by
  rcases h with ⟨rfl, rfl, rfl, rfl⟩ | ⟨x, rfl, h1, h2, h3, h4, _⟩
  · exact ⟨[], rfl, .inl rfl, by simp⟩
  · have hl : (z.take len).length = len := by rw [List.length_take]; omega
    refine ⟨z.take len, hl, ?_, by omega⟩
    by_cases h0 : len = 0
    · subst h0; exact .inl (by simp)
    · obtain ⟨b, off, spot⟩ := x
      have hc := h4 0 (by omega)
      have hspot : spot = none := by simpa [Addr.add] using World.cell?_spot hc
      subst hspot
      refine .inr ⟨b, off, rfl, World.block_lt_of_cell? w _ hc, fun i hi => ?_⟩
      have := h4 i (by omega)
      have e : (⟨b, off, none⟩ : Addr).add i = ⟨b, off + i, none⟩ := by unfold Addr.add; split <;> simp_all
      rw [e] at this
      rw [this, nth_take z len i (by omega)]; rfl


theorem copy_info : (Try.prog.info? 22).map (fun i => (i.zero, i.size, i.bytes)) = some (some (.int .u32 0), 1, 4) := by kernel_rfl
theorem copy_any (ao : Option Addr) (cap : Nat) (zs : List Int) (w : World) (hin : In .u32 w ao zs) (hl : zs.length ≤ 1048576) :
    Calls Try.prog 25 #[.slice ao zs.length cap] w (Cloned .u32 22 w zs) := by
  have hnil := fun (w : World) => Lib.run_eql_slice_nil (P := Try.prog) w 32 22 ao zs.length cap 0 0 Try.underlying32
  rcases ao with _ | x
  · have hz : zs = [] := by
      rcases hin with h | ⟨b, off, h, _⟩
      · exact h
      · cases h
    subst hz
    clear hin hl
    simp only [List.length_nil, Option.isNone_none] at hnil
    go_enter Try.func25, Try.ntmps25
    go_wp2
    go_ret
    exact ⟨_, _, rfl, .inl rfl, Below.refl _ _⟩
  · have HI := Lib.hid hin
    clear hin
    go_enter Try.func25, Try.ntmps25
    go_wp2_with (at_make; refine wpList_make_ints _ rfl _ _ 32 rfl 22 .u32 4 Try.underlying32 copy_info zs.length rfl rfl (by omega) (by unfold maxLen; omega) ?_; intro w1 hb hgr)
    have hb1 : Below w.heap.size w w1 := (Below.refl _ w).grown hgr (Nat.le_refl _) (fun k h => by cases h)
    have HB := Lib.hid (And.intro hb hb1)
    clear hb hgr hb1
    go_loopw [4] (fun i wr => ∃ k : Nat, k ≤ zs.length ∧ i = .int .i64 k ∧ Blk wr w.heap.size 22 (ints .u32 (cpy zs k)) ∧ Below w.heap.size w wr) (fun i _ => zs.length - (intOf i).toNat)
    case atStart => exact ⟨0, Nat.zero_le _, rfl, by rw [cpy_zero]; exact HB.out.1, HB.out.2⟩
    case round =>
      obtain ⟨k, hk, rfl, hB, hbel⟩ := hrel
      rcases (show k = zs.length ∨ k < zs.length by omega) with rfl | hlt
      · rw [cpy_end] at hB
        have HF := Lib.hid (And.intro hB hbel)
        clear hB hbel
        go_wp2
        go_ret
        exact ⟨_, _, rfl, .inr ⟨_, rfl, Nat.le_refl _, HF.out.1⟩, HF.out.2⟩
      · obtain ⟨b, off, hx, hblt, hc⟩ := HI.out.at hlt
        cases hx
        have hc' := (hbel.cell (p := ⟨b, off + k, none⟩) hblt).trans hc
        have hcl := cpy_length zs k hk
        have hs := hB.int (i := k) (by omega)
        have hf := hB.free k
        have hB2 := hB.put k (nth zs k)
        rw [cpy_step zs k hlt] at hB2
        have HN := Lib.hid (And.intro hB2 (hbel.setCell (p := ⟨w.heap.size, k, none⟩) (Nat.le_refl _) (.int .u32 (nth zs k))))
        clear hB hbel hB2 hc hcl
        go_wp2
        go_roundw
        case rel => exact ⟨k + 1, by omega, by go_num, HN.out.1, HN.out.2⟩
        case measure => simp [intOf]; omega


theorem info71 : (Try.prog.info? 71).map (fun i => (i.zero, i.size, i.bytes)) = some (some (.agg (ints .u32 (List.replicate 2 0))), 2, 8) := by kernel_rfl

/-! the plain side -/
def sig (i j k : Nat) : Nat := if k = i then j else if k = j then i else k
theorem sig_lt {i j k n : Nat} (hi : i < n) (hj : j < n) (hk : k < n) : sig i j k < n := by unfold sig; (repeat' split) <;> omega
theorem sig_sig (i j k : Nat) : sig i j (sig i j k) = k := by unfold sig; (repeat' split) <;> omega
theorem sig_comm (i j k : Nat) : sig i j k = sig j i k := by unfold sig; (repeat' split) <;> omega
def swl (i j : Nat) (zs : List Int) : List Int := (List.range zs.length).map fun k => nth zs (sig i j k)
theorem swl_length (i j : Nat) (zs : List Int) : (swl i j zs).length = zs.length := by simp [swl]
theorem swl_nth (i j : Nat) (zs : List Int) (k : Nat) (hk : k < zs.length) : nth (swl i j zs) k = nth zs (sig i j k) := by
  rw [nth_get _ _ (by rw [swl_length]; exact hk)]; simp [swl]
theorem swl_comm (i j : Nat) (zs : List Int) : swl i j zs = swl j i zs := by
  unfold swl; congr 1; funext k; rw [sig_comm]
theorem swl_swl (i j : Nat) (zs : List Int) (hi : i < zs.length) (hj : j < zs.length) : swl i j (swl i j zs) = zs := by
  apply nth_ext (by rw [swl_length, swl_length])
  intro k hk
  rw [swl_length, swl_length] at hk
  rw [swl_nth _ _ _ _ (by rw [swl_length]; exact hk), swl_nth _ _ _ _ (sig_lt hi hj hk), sig_sig]

/-- the first k pairs are in place -/
def Pairs (A B fl : List Int) (n k : Nat) : Prop := fl.length = 2 * n ∧ ∀ m, m < k → nth fl (m * 2) = nth A m ∧ nth fl (m * 2 + 1) = nth B m
theorem pairs_step {A B fl : List Int} {n k : Nat} (h : Pairs A B fl n k) (hk : k < n) : Pairs A B ((fl.set (k * 2) (nth A k)).set (k * 2 + 1) (nth B k)) n (k + 1) := by
  obtain ⟨h1, h2⟩ := h
  refine ⟨by simp [h1], fun m hm => ?_⟩
  have e : ∀ x, nth ((fl.set (k * 2) (nth A k)).set (k * 2 + 1) (nth B k)) x = if x = k * 2 + 1 then nth B k else if x = k * 2 then nth A k else nth fl x := by
    intro x
    rw [nth_set _ _ _ _ (by simp; omega), nth_set _ _ _ _ (by omega)]
  simp only [e]
  by_cases c : m = k
  · subst c
    refine ⟨?_, ?_⟩
    · rw [if_neg (by omega), if_pos rfl]
    · rw [if_pos rfl]
  · have := h2 m (by omega)
    refine ⟨?_, ?_⟩ <;> rw [if_neg (by omega), if_neg (by omega)]
    · exact this.1
    · exact this.2
theorem pairs_swap {A B fl : List Int} {n i j : Nat} (h : Pairs A B fl n n) (hA : A.length = n) (hB : B.length = n) (hi : i < n) (hj : j < n) :
    Pairs (swl i j A) (swl i j B) ((((fl.set (i * 2) (nth fl (j * 2))).set (i * 2 + 1) (nth fl (j * 2 + 1))).set (j * 2) (nth fl (i * 2))).set (j * 2 + 1) (nth fl (i * 2 + 1))) n n := by
  obtain ⟨hl, h2⟩ := h
  refine ⟨by simp [hl], fun k hk => ?_⟩
  rw [swl_nth _ _ _ _ (by omega), swl_nth _ _ _ _ (by omega), ← (h2 (sig i j k) (sig_lt hi hj hk)).1, ← (h2 (sig i j k) (sig_lt hi hj hk)).2]
  have e : ∀ x, nth ((((fl.set (i * 2) (nth fl (j * 2))).set (i * 2 + 1) (nth fl (j * 2 + 1))).set (j * 2) (nth fl (i * 2))).set (j * 2 + 1) (nth fl (i * 2 + 1))) x =
      if x = j * 2 + 1 then nth fl (i * 2 + 1) else if x = j * 2 then nth fl (i * 2) else if x = i * 2 + 1 then nth fl (j * 2 + 1) else if x = i * 2 then nth fl (j * 2) else nth fl x := by
    intro x
    rw [nth_set _ _ _ _ (by simp; omega), nth_set _ _ _ _ (by simp; omega), nth_set _ _ _ _ (by simp; omega), nth_set _ _ _ _ (by omega)]
  simp only [e, sig]
  by_cases c1 : k = i
  · subst c1
    by_cases c2 : k = j
    · subst c2
      refine ⟨?_, ?_⟩ <;> (repeat' split) <;> first | rfl | omega
    · refine ⟨?_, ?_⟩ <;> (repeat' split) <;> first | rfl | omega
  · by_cases c2 : k = j
    · subst c2
      refine ⟨?_, ?_⟩ <;> (repeat' split) <;> first | rfl | omega
    · refine ⟨?_, ?_⟩ <;> (repeat' split) <;> first | rfl | omega

theorem swap_any (g n i j : Nat) (A B fl : List Int) (w : World) (hb : Blk w g 71 (ints .u32 fl)) (hP : Pairs A B fl n n) (hA : A.length = n) (hB : B.length = n) (hi : i < n) (hj : j < n) (hn : n ≤ 65536) :
    Calls Try.prog 31 #[.slice (some ⟨g, 0, none⟩) n n, .int .i64 i, .int .i64 j] w fun e w' => e = .returned (.tuple #[]) ∧ (∃ fl', Blk w' g 71 (ints .u32 fl') ∧ Pairs (swl i j A) (swl i j B) fl' n n) ∧ w.grownBy w' (some g) := by
  have hl := hP.1
  have HR := Lib.hid ((((hb.put (i * 2) (nth fl (j * 2))).put (i * 2 + 1) (nth fl (j * 2 + 1))).put (j * 2) (nth fl (i * 2))).put (j * 2 + 1) (nth fl (i * 2 + 1))).drew
  have HG := Lib.hid (gb_drew (gb_set (gb_set (gb_set (gb_set (gb_refl w (some g)) (i * 2) none (.int .u32 (nth fl (j * 2)))) (i * 2 + 1) none (.int .u32 (nth fl (j * 2 + 1)))) (j * 2) none (.int .u32 (nth fl (i * 2)))) (j * 2 + 1) none (.int .u32 (nth fl (i * 2 + 1)))))
  have HS := Lib.hid (pairs_swap hP hA hB hi hj)
  have i0 := hb.int (i := i * 2) (by omega)
  have i1 := hb.int (i := i * 2 + 1) (by omega)
  have j0 := hb.int (i := j * 2) (by omega)
  have j1 := hb.int (i := j * 2 + 1) (by omega)
  have fi0 := hb.free (i * 2)
  have fi1 := hb.free (i * 2 + 1)
  have fj0 := hb.free (j * 2)
  have fj1 := hb.free (j * 2 + 1)
  clear hb hl hP hA hB
  by_cases hij : i = j
  · subst hij
    clear j0 j1 fj0 fj1 hj
    go_enter Try.func31, Try.ntmps31
    go_wp2
    go_region
    go_end0
    exact ⟨rfl, ⟨_, HR.out, HS.out⟩, HG.out⟩
  · have n1 : ¬ j * 2 = i * 2 := by omega
    have n2 : ¬ j * 2 = i * 2 + 1 := by omega
    have n4 : ¬ j * 2 + 1 = i * 2 := by omega
    have n5 : ¬ j * 2 + 1 = i * 2 + 1 := by omega
    go_enter Try.func31, Try.ntmps31
    go_wp2
    go_region
    go_end0
    exact ⟨rfl, ⟨_, HR.out, HS.out⟩, HG.out⟩

/-- two slices that read as one list are equal -/
theorem eq_any (a0 a1 : Option Addr) (c0 c1 : Nat) (A B : List Int) (w : World) (hAB : A = B) (hA : In .u32 w a0 A) (hB : In .u32 w a1 B) (hn : A.length ≤ 65536) :
    Calls Try.prog 27 #[.slice a0 A.length c0, .slice a1 B.length c1] w fun e w' => e = .returned (.bool true) ∧ Below w.heap.size w w' := by
  subst hAB
  have HI := Lib.hid (And.intro hA hB)
  clear hA hB
  go_enter Try.func27, Try.ntmps27
  go_wp2
  go_loopw [5] (fun x wr => ∃ k : Nat, k ≤ A.length ∧ x = .int .i64 k ∧ Below w.heap.size w wr) (fun x _ => A.length - (intOf x).toNat)
  case atStart => exact ⟨0, Nat.zero_le _, rfl, Below.refl _ _⟩
  case round =>
    obtain ⟨k, hk, rfl, hbel⟩ := hrel
    rcases (show k = A.length ∨ k < A.length by omega) with rfl | hlt
    · have HF := Lib.hid hbel
      clear hbel
      go_wp2
      go_ret
      exact ⟨rfl, HF.out⟩
    · obtain ⟨b0, o0, hx0, hlt0, hc0⟩ := (HI.out.1.kept hbel).at hlt
      obtain ⟨b1, o1, hx1, hlt1, hc1⟩ := (HI.out.2.kept hbel).at hlt
      subst hx0 hx1
      have HF := Lib.hid hbel
      have iA : (k : Int) < (A.length : Int) := by omega
      have i0 : (0 : Int) ≤ (k : Int) := by omega
      clear hbel
      go_wp2
      go_region
      go_wp2
      go_roundw
      case rel => exact ⟨k + 1, by omega, by go_num, HF.out.drew⟩
      case measure => simp [intOf]; omega
/-- what ZZslotSwap hands back -/
def Out (i j : Nat) (A B : List Int) (w : World) (e : Ending) (w' : World) : Prop :=
  ∃ g1 g2, e = .returned (.tuple #[.slice (some ⟨g1, 0, none⟩) A.length A.length, .slice (some ⟨g2, 0, none⟩) A.length A.length]) ∧ In .u32 w' (some ⟨g1, 0, none⟩) (swl i j A) ∧ In .u32 w' (some ⟨g2, 0, none⟩) (swl i j B) ∧ Below w.heap.size w w'

set_option maxHeartbeats 1000000 in
theorem slot_any (a0 a1 : Option Addr) (c0 c1 : Nat) (A B : List Int) (i j : Nat) (w : World) (hA : In .u32 w a0 A) (hB : In .u32 w a1 B) (hAB : B.length = A.length) (hi : i < A.length) (hj : j < A.length) (hn : A.length ≤ 4096) :
    Calls Try.prog 26 #[.slice a0 A.length c0, .slice a1 B.length c1, .int .i64 i, .int .i64 j] w (Out i j A B w) := by
  have HI := Lib.hid (And.intro hA hB)
  have HAB := Lib.hid hAB
  have hBl : A.length ≤ B.length := by omega
  clear hA hB hAB
  go_enter Try.func26, Try.ntmps26
  go_wp2_with (at_make; refine wpList_make_flat _ rfl _ _ 69 rfl 71 .u32 2 8 (by decide) Try.underlying69 info71 A.length rfl rfl (by omega) (by unfold maxLen; omega) ?_; intro w1 hb hgr)
  have hb1 : Below w.heap.size w w1 := (Below.refl _ w).grown hgr (Nat.le_refl _) (fun k h => by cases h)
  have HB := Lib.hid (And.intro hb hb1)
  clear hb hgr hb1
  go_loopw [11] (fun x wr => ∃ (k : Nat) (fl : List Int), k ≤ A.length ∧ x = .int .i64 k ∧ Blk wr w.heap.size 71 (ints .u32 fl) ∧ Pairs A B fl A.length k ∧ Below w.heap.size w wr) (fun x _ => A.length - (intOf x).toNat)
  case atStart => exact ⟨0, _, Nat.zero_le _, rfl, HB.out.1, ⟨by simp; omega, fun m hm => by omega⟩, HB.out.2⟩
  case round =>
    obtain ⟨k, fl, hk, rfl, hBk, hT, hbel⟩ := hrel
    rcases (show k = A.length ∨ k < A.length by omega) with rfl | hlt
    · have HF := Lib.hid (And.intro hBk (And.intro hT hbel))
      have z1 := hbel.size
      clear hBk hbel hT HB
      go_wp2_with fail
      refine (swap_any w.heap.size A.length i j A B fl _ HF.out.1 HF.out.2.1 rfl HAB.out hi hj (by omega)).mono ?_
      rintro e w2 ⟨rfl, ⟨fl', hB2, hP2⟩, hg2⟩
      have N2 : Below w.heap.size w w2 := below_gb HF.out.2.2 hg2 z1 (Nat.le_refl _)
      have HF2 := Lib.hid (And.intro hB2 (And.intro hP2 N2))
      have z2 := N2.size
      have zg := hB2.lt
      clear hB2 hP2 hg2 N2
      obtain ⟨wo, rfl⟩ : ∃ wo : World, wo = wr := ⟨_, rfl⟩
      go_wp2_with (first | (at_make; refine wpList_make_ints _ rfl (.tmp 41) (.tmp 41) 32 rfl 22 .u32 4 Try.underlying32 copy_info A.length rfl rfl (by omega) (by unfold maxLen; omega) ?_; intro w3 hb3 hgr3) | (at_make; refine wpList_make_ints _ rfl (.tmp 44) (.tmp 44) 32 rfl 22 .u32 4 Try.underlying32 copy_info A.length rfl rfl (by omega) (by unfold maxLen; omega) ?_; intro w4 hb4 hgr4))
      have z3 := hgr3.size
      have z4 := hgr4.size
      have zz3 := hb3.lt
      have lA := swl_length i j A
      have lB := (swl_length i j B).trans HAB.out
      have HL := Lib.hid (And.intro lA lB)
      have Q := Lib.hid (show Blk w4 w2.heap.size 22 (ints .u32 (cpy (swl i j A) 0)) ∧ Blk w4 w3.heap.size 22 (ints .u32 (cpy (swl i j B) 0)) ∧ Blk w4 w.heap.size 71 (ints .u32 fl') ∧ Below w.heap.size w w4 from by
        refine ⟨?_, ?_, ?_, ?_⟩
        · rw [cpy_zero, lA]; exact hb3.gb hgr4 (by simp)
        · rw [cpy_zero, lB]; exact hb4
        · exact (HF2.out.1.gb hgr3 (by simp)).gb hgr4 (by simp)
        · exact (HF2.out.2.2.grown hgr3 z2 (fun k h => by cases h)).grown hgr4 (by omega) (fun k h => by cases h))
      clear hb3 hb4 hgr3 hgr4 lA lB
      go_loopw [14] (fun x wr => ∃ k : Nat, k ≤ A.length ∧ x = .int .i64 k ∧ Blk wr w2.heap.size 22 (ints .u32 (cpy (swl i j A) k)) ∧ Blk wr w3.heap.size 22 (ints .u32 (cpy (swl i j B) k)) ∧ Blk wr w.heap.size 71 (ints .u32 fl') ∧ Below w.heap.size w wr) (fun x _ => A.length - (intOf x).toNat)
      case atStart => exact ⟨0, Nat.zero_le _, rfl, Q.out.1, Q.out.2.1, Q.out.2.2.1, Q.out.2.2.2⟩
      case round =>
        obtain ⟨k, hk, rfl, h1, h2, h3, hbel⟩ := hrel
        rcases (show k = A.length ∨ k < A.length by omega) with rfl | hlt
        · have e1 := cpy_end (swl i j A)
          rw [HL.out.1] at e1
          have e2 := cpy_end (swl i j B)
          rw [HL.out.2] at e2
          rw [e1] at h1
          rw [e2] at h2
          have HZ := Lib.hid (And.intro h1 (And.intro h2 hbel))
          clear h1 h2 h3 hbel e1 e2
          go_wp2
          go_ret2
          exact ⟨_, _, rfl, HZ.out.1.in, HZ.out.2.1.in, HZ.out.2.2⟩
        · have hP := HF2.out.2.1
          have hfl := hP.1
          have hPk := hP.2 k hlt
          have s0 := h3.int (i := k * 2) (by omega)
          have s1 := h3.int (i := k * 2 + 1) (by omega)
          rw [hPk.1] at s0
          rw [hPk.2] at s1
          have cl1 := cpy_length (swl i j A) k (by rw [HL.out.1]; omega)
          have cl2 := cpy_length (swl i j B) k (by rw [HL.out.2]; omega)
          rw [HL.out.1] at cl1
          rw [HL.out.2] at cl2
          have t0 := h1.int (i := k) (by omega)
          have t1 := h2.int (i := k) (by omega)
          have f0 := h1.free k
          have f1 := h2.free k
          have ng1 : ¬ w.heap.size = w2.heap.size := by omega
          have ng2 : ¬ w3.heap.size = w2.heap.size := by omega
          have p1 := h1.put k (nth (swl i j A) k)
          rw [cpy_step _ k (by rw [HL.out.1]; exact hlt)] at p1
          have p2 := (show Blk (wr.setCell ⟨w2.heap.size, k, none⟩ (.int .u32 (nth (swl i j A) k))) w3.heap.size 22 _ from blk_set_ne h2 ng2 _ _ _).put k (nth (swl i j B) k)
          rw [cpy_step _ k (by rw [HL.out.2]; exact hlt)] at p2
          have p1' : Blk ((wr.setCell ⟨w2.heap.size, k, none⟩ (.int .u32 (nth (swl i j A) k))).setCell ⟨w3.heap.size, k, none⟩ (.int .u32 (nth (swl i j B) k))) w2.heap.size 22 _ := blk_set_ne p1 (fun e => ng2 e.symm) _ _ _
          have p3 : Blk ((wr.setCell ⟨w2.heap.size, k, none⟩ (.int .u32 (nth (swl i j A) k))).setCell ⟨w3.heap.size, k, none⟩ (.int .u32 (nth (swl i j B) k))) w.heap.size 71 _ := blk_set_ne (blk_set_ne h3 ng1 _ _ _) (by omega) _ _ _
          have HZ := Lib.hid (And.intro p1' (And.intro p2 (And.intro p3 ((hbel.setCell (p := ⟨w2.heap.size, k, none⟩) (by simpa using z2) (.int .u32 (nth (swl i j A) k))).setCell (p := ⟨w3.heap.size, k, none⟩) (by simp; omega) (.int .u32 (nth (swl i j B) k))))))
          clear p1 p2 p3 p1' h1 h2 h3 hbel cl1 cl2 hPk hP hfl
          go_wp2
          go_roundw
          case rel => exact ⟨k + 1, by omega, by go_num, HZ.out.1, HZ.out.2.1, HZ.out.2.2.1, HZ.out.2.2.2⟩
          case measure => simp [intOf]; omega
    · obtain ⟨b0, o0, hx0, hlt0, hc0⟩ := HI.out.1.at (i := k) (by omega)
      obtain ⟨b1, o1, hx1, hlt1, hc1⟩ := HI.out.2.at (i := k) (by omega)
      subst hx0 hx1
      have d0 := (hbel.cell (p := ⟨b0, o0 + k, none⟩) hlt0).trans hc0
      have d1 := (hbel.cell (p := ⟨b1, o1 + k, none⟩) hlt1).trans hc1
      have hfl := hT.1
      have e0 := hBk.int (i := k * 2) (by omega)
      have e1 := hBk.int (i := k * 2 + 1) (by omega)
      have f0 := hBk.free (k * 2)
      have f1 := hBk.free (k * 2 + 1)
      have HN := Lib.hid (And.intro hBk (And.intro hT hbel))
      have ne0 : ¬ b0 = w.heap.size := by omega
      have ne1 : ¬ b1 = w.heap.size := by omega
      have iA : (k : Int) < (A.length : Int) := by omega
      have iB : (k : Int) < (B.length : Int) := by omega
      have i0 : (0 : Int) ≤ (k : Int) := by omega
      clear hBk hT hbel hc0 hc1 hfl
      go_wp2
      go_region
      clear d0 d1 e0 e1 f0 f1
      go_wp2
      go_roundw
      case rel => exact ⟨k + 1, _, by omega, by go_num, ((HN.out.1.put (k * 2) (nth A k)).put (k * 2 + 1) (nth B k)).drew, pairs_step HN.out.2.1 hlt, ((HN.out.2.2.setCell (Nat.le_refl _) _).setCell (Nat.le_refl _) _).drew⟩
      case measure => simp [intOf]; omega
/-- what the second exchange hands back: the lists themselves -/
def Back (i j : Nat) (A B : List Int) (w : World) (e : Ending) (w' : World) : Prop :=
  ∃ g1 g2, e = .returned (.tuple #[.slice (some ⟨g1, 0, none⟩) A.length A.length, .slice (some ⟨g2, 0, none⟩) A.length A.length]) ∧ In .u32 w' (some ⟨g1, 0, none⟩) A ∧ In .u32 w' (some ⟨g2, 0, none⟩) B ∧ Below w.heap.size w w'

set_option maxHeartbeats 1000000 in
theorem good (a0 a1 : Option Addr) (c0 c1 : Nat) (A B : List Int) (i j : Nat) (w : World) (HI : Hid (In .u32 w a0 A ∧ In .u32 w a1 B)) (HL : Hid (B.length = A.length)) (bl : B.length ≤ A.length) (bl' : A.length ≤ B.length) (lA : A.length ≤ 4096) (hi : i < A.length) (hj : j < A.length) :
    Calls Try.prog 7 #[.slice a0 A.length c0, .slice a1 B.length c1, .int .i64 i, .int .i64 j] w fun e w' => e = .returned (.bool true) ∧ Below w.heap.size w w' := by
  have hlen : ((A.length : Int) == (B.length : Int)) = true := by simp; omega
  go_enter Try.func7, Try.ntmps7
  go_wp2_with (go_at_call 24; go_in)
  refine (copy_any a0 c0 A _ HI.out.1 (by omega)).mono ?_
  rintro e w1 ⟨p0, d0, rfl, k0, b1⟩
  have K := Lib.hid (And.intro (Cloned.in' k0) (And.intro (HI.out.2.kept b1) b1))
  clear k0 b1
  go_wp2_with fail
  refine (copy_any a1 c1 B _ K.out.2.1 (by omega)).mono ?_
  rintro e w2 ⟨p1, d1, rfl, k1, b2⟩
  have K := Lib.hid (And.intro (K.out.1.kept b2) (And.intro (Cloned.in' k1) (below_two K.out.2.2 b2)))
  clear k1 b2
  go_wp2_with fail
  refine (slot_any p0 p1 d0 d1 A B i j _ K.out.1 K.out.2.1 HL.out hi hj lA).mono ?_
  rintro e w3 ⟨s1, s2, rfl, i1, i2, b3⟩
  have K := Lib.hid (And.intro (K.out.1.kept b3) (And.intro (K.out.2.1.kept b3) (And.intro (below_two K.out.2.2 b3) (And.intro i1 i2))))
  clear i1 i2 b3
  go_wp2_with fail
  refine (slot_any p0 p1 d0 d1 A B j i _ K.out.1 K.out.2.1 HL.out hj hi lA).mono ?_
  rintro e w4 ⟨s3, s4, rfl, i3, i4, b4⟩
  have K := Lib.hid (And.intro (K.out.1.kept b4) (And.intro (K.out.2.1.kept b4) (And.intro (below_two K.out.2.2.1 b4) (And.intro (K.out.2.2.2.1.kept b4) (And.intro (K.out.2.2.2.2.kept b4) (And.intro i3 i4))))))
  clear i3 i4 b4
  have q1 := Lib.hid (swl_comm i j A)
  have q2 := Lib.hid (swl_comm i j B)
  have l1 := Lib.hid (swl_length i j A)
  have l2 := Lib.hid (swl_length i j B)
  have l3 := Lib.hid (swl_length j i A)
  have l4 := Lib.hid (swl_length j i B)
  have E1 : Hid (∀ w', In .u32 w' (some ⟨s1, 0, none⟩) (swl i j A) → In .u32 w' (some ⟨s3, 0, none⟩) (swl j i A) → Calls Try.prog 27 #[.slice (some ⟨s1, 0, none⟩) A.length A.length, .slice (some ⟨s3, 0, none⟩) A.length A.length] w' fun e w'' => e = .returned (.bool true) ∧ Below w'.heap.size w' w'') := Lib.hid fun w' h1 h2 => by
    have := eq_any _ _ A.length A.length _ _ w' q1.out h1 h2 (by rw [l1.out]; omega)
    rw [l1.out, l3.out] at this; exact this
  have E2 : Hid (∀ w', In .u32 w' (some ⟨s2, 0, none⟩) (swl i j B) → In .u32 w' (some ⟨s4, 0, none⟩) (swl j i B) → Calls Try.prog 27 #[.slice (some ⟨s2, 0, none⟩) A.length A.length, .slice (some ⟨s4, 0, none⟩) A.length A.length] w' fun e w'' => e = .returned (.bool true) ∧ Below w'.heap.size w' w'') := Lib.hid fun w' h1 h2 => by
    have := eq_any _ _ A.length A.length _ _ w' q2.out h1 h2 (by rw [l2.out]; omega)
    rw [l2.out, l4.out, HL.out] at this; exact this
  go_wp2_with fail
  refine (E1.out _ K.out.2.2.2.1 K.out.2.2.2.2.2.1).mono ?_
  rintro e w5 ⟨rfl, b5⟩
  have K := Lib.hid (And.intro (K.out.1.kept b5) (And.intro (K.out.2.1.kept b5) (And.intro (below_two K.out.2.2.1 b5) (And.intro (K.out.2.2.2.1.kept b5) (And.intro (K.out.2.2.2.2.1.kept b5) (And.intro (K.out.2.2.2.2.2.1.kept b5) (K.out.2.2.2.2.2.2.kept b5)))))))
  clear b5
  go_wp2_with fail
  refine (E2.out _ K.out.2.2.2.2.1 K.out.2.2.2.2.2.2).mono ?_
  rintro e w6 ⟨rfl, b6⟩
  have K := Lib.hid (And.intro (K.out.1.kept b6) (And.intro (K.out.2.1.kept b6) (And.intro (below_two K.out.2.2.1 b6) (And.intro (K.out.2.2.2.1.kept b6) (K.out.2.2.2.2.1.kept b6)))))
  clear b6 E1 E2
  have E3 : Hid (∀ w', In .u32 w' (some ⟨s1, 0, none⟩) (swl i j A) → In .u32 w' (some ⟨s2, 0, none⟩) (swl i j B) → Calls Try.prog 26 #[.slice (some ⟨s1, 0, none⟩) A.length A.length, .slice (some ⟨s2, 0, none⟩) A.length A.length, .int .i64 i, .int .i64 j] w' (Back i j A B w')) := Lib.hid fun w' h1 h2 => by
    have := slot_any (some ⟨s1, 0, none⟩) (some ⟨s2, 0, none⟩) A.length A.length (swl i j A) (swl i j B) i j w' h1 h2 (by rw [l1.out, l2.out]; exact HL.out) (by rw [l1.out]; exact hi) (by rw [l1.out]; exact hj) (by rw [l1.out]; exact lA)
    rw [l1.out, l2.out, HL.out] at this
    refine this.mono ?_
    rintro e w'' ⟨g1, g2, he, i1, i2, bb⟩
    rw [swl_swl i j A hi hj] at i1
    rw [swl_swl i j B (by omega) (by omega)] at i2
    rw [l1.out] at he
    exact ⟨g1, g2, he, i1, i2, bb⟩
  go_wp2_with fail
  refine (E3.out _ K.out.2.2.2.1 K.out.2.2.2.2).mono ?_
  rintro e w7 ⟨s5, s6, rfl, i5, i6, b7⟩
  have K := Lib.hid (And.intro (K.out.1.kept b7) (And.intro (K.out.2.1.kept b7) (And.intro (below_two K.out.2.2.1 b7) (And.intro i5 i6))))
  clear b7 i5 i6 E3
  go_wp2_with fail
  refine (eq_any _ _ A.length d0 A A _ rfl K.out.2.2.2.1 K.out.1 (by omega)).mono ?_
  rintro e w8 ⟨rfl, b8⟩
  have K := Lib.hid (And.intro (K.out.2.1.kept b8) (And.intro (below_two K.out.2.2.1 b8) (K.out.2.2.2.2.kept b8)))
  clear b8
  have E4 : Hid (∀ w', In .u32 w' (some ⟨s6, 0, none⟩) B → In .u32 w' p1 B → Calls Try.prog 27 #[.slice (some ⟨s6, 0, none⟩) A.length A.length, .slice p1 B.length d1] w' fun e w'' => e = .returned (.bool true) ∧ Below w'.heap.size w' w'') := Lib.hid fun w' h1 h2 => by
    have := eq_any (some ⟨s6, 0, none⟩) p1 A.length d1 B B w' rfl h1 h2 (by omega)
    rw [HL.out] at this ⊢; exact this
  go_wp2_with fail
  refine (E4.out _ K.out.2.2 K.out.1).mono ?_
  rintro e w9 ⟨rfl, b9⟩
  have HZ := Lib.hid (below_two K.out.2.1 b9)
  clear b9 E4
  go_wp2
  go_ret
  exact ⟨rfl, HZ.out⟩
set_option maxHeartbeats 400000 in
theorem bad1 (a0 a1 : Option Addr) (c0 c1 : Nat) (A B : List Int) (i j : Int) (w : World) (mA : A.length ≤ 9223372036854775807) (mB : B.length ≤ 9223372036854775807) (h : 4096 < A.length) :
    Calls Try.prog 7 #[.slice a0 A.length c0, .slice a1 B.length c1, .int .i64 i, .int .i64 j] w fun e w' => e = .returned (.bool true) ∧ Below w.heap.size w w' := by
  go_enter Try.func7, Try.ntmps7
  go_wp2
  all_goals go_ret
  all_goals exact ⟨rfl, Below.refl _ _⟩
set_option maxHeartbeats 400000 in
theorem bad2 (a0 a1 : Option Addr) (c0 c1 : Nat) (A B : List Int) (i j : Int) (w : World) (mA : A.length ≤ 9223372036854775807) (mB : B.length ≤ 9223372036854775807) (h : 4096 < B.length) :
    Calls Try.prog 7 #[.slice a0 A.length c0, .slice a1 B.length c1, .int .i64 i, .int .i64 j] w fun e w' => e = .returned (.bool true) ∧ Below w.heap.size w w' := by
  go_enter Try.func7, Try.ntmps7
  go_wp2
  all_goals go_ret
  all_goals exact ⟨rfl, Below.refl _ _⟩
set_option maxHeartbeats 400000 in
theorem bad3 (a0 a1 : Option Addr) (c0 c1 : Nat) (A B : List Int) (i j : Int) (w : World) (mA : A.length ≤ 9223372036854775807) (mB : B.length ≤ 9223372036854775807) (lA : A.length ≤ 4096) (lB : B.length ≤ 4096) (h : ¬ (A.length : Int) = (B.length : Int)) :
    Calls Try.prog 7 #[.slice a0 A.length c0, .slice a1 B.length c1, .int .i64 i, .int .i64 j] w fun e w' => e = .returned (.bool true) ∧ Below w.heap.size w w' := by
  have hb : ((A.length : Int) == (B.length : Int)) = false := by simpa using h
  go_enter Try.func7, Try.ntmps7
  go_wp2
  all_goals go_ret
  all_goals exact ⟨rfl, Below.refl _ _⟩
set_option maxHeartbeats 400000 in
theorem bad4 (a0 a1 : Option Addr) (c0 c1 : Nat) (A B : List Int) (i j : Int) (w : World) (mA : A.length ≤ 9223372036854775807) (mB : B.length ≤ 9223372036854775807) (lA : A.length ≤ 4096) (h0 : (A.length : Int) = (B.length : Int)) (h : i < 0 ∨ (0 ≤ i ∧ (A.length : Int) ≤ i) ∨ (0 ≤ i ∧ i < A.length ∧ j < 0) ∨ (0 ≤ i ∧ i < A.length ∧ 0 ≤ j ∧ (A.length : Int) ≤ j)) :
    Calls Try.prog 7 #[.slice a0 A.length c0, .slice a1 B.length c1, .int .i64 i, .int .i64 j] w fun e w' => e = .returned (.bool true) ∧ Below w.heap.size w w' := by
  have hb : ((A.length : Int) == (B.length : Int)) = true := by simpa using h0
  have e1 : B.length ≤ A.length := by omega
  have e2 : A.length ≤ B.length := by omega
  clear h0
  rcases h with h | ⟨h1, h2⟩ | ⟨h1, h2, h3⟩ | ⟨h1, h2, h3, h4⟩
  all_goals
    go_enter Try.func7, Try.ntmps7
    go_wp2
    go_ret
    exact ⟨rfl, Below.refl _ _⟩

theorem walk (a0 : Option Addr) (len0 cap0 : Nat) (z0 : List Int) (a1 : Option Addr) (len1 cap1 : Nat) (z1 : List Int) (a2 : Int) (a3 : Int) (w : World) (w0 : IsRow .u32 w a0 len0 cap0 z0) (w1 : IsRow .u32 w a1 len1 cap1 z1) (w2 : (Lit.int .i64 a2).wf = true) (w3 : (Lit.int .i64 a3).wf = true) :
    Calls Try.prog 7 #[.slice a0 len0 cap0, .slice a1 len1 cap1, .int .i64 a2, .int .i64 a3] w fun e w' => e = .returned (.bool true) ∧ Below w.heap.size w w' := by
  obtain ⟨A, hzA, hA, mA⟩ := row_in w0
  obtain ⟨B, hzB, hB, mB⟩ := row_in w1
  subst hzA hzB
  unfold maxLen at mA mB
  have hA' : A.length ≤ 9223372036854775807 := by omega
  have hB' : B.length ≤ 9223372036854775807 := by omega
  by_cases lA : A.length ≤ 4096
  rotate_left
  · exact bad1 a0 a1 cap0 cap1 A B a2 a3 w hA' hB' (by omega)
  by_cases lB : B.length ≤ 4096
  rotate_left
  · exact bad2 a0 a1 cap0 cap1 A B a2 a3 w hA' hB' (by omega)
  by_cases lE : (A.length : Int) = (B.length : Int)
  rotate_left
  · exact bad3 a0 a1 cap0 cap1 A B a2 a3 w hA' hB' lA lB lE
  by_cases hr : 0 ≤ a2 ∧ a2 < A.length ∧ 0 ≤ a3 ∧ a3 < A.length
  · obtain ⟨g1, g2, g3, g4⟩ := hr
    obtain ⟨i, rfl⟩ := Int.eq_ofNat_of_zero_le g1
    obtain ⟨j, rfl⟩ := Int.eq_ofNat_of_zero_le g3
    exact good a0 a1 cap0 cap1 A B i j w (Lib.hid ⟨hA, hB⟩) (Lib.hid (by omega)) (by omega) (by omega) lA (by omega) (by omega)
  · exact bad4 a0 a1 cap0 cap1 A B a2 a3 w hA' hB' lA lE (by omega)

set_option maxRecDepth 100000 in
theorem lifted (os : Os) (started : os.Started) (H : Type) (enc : TypeId × Value → H) :
    ReturnsInHanded {} Try.checked os 7 .any (Rows.fnSlotSwapInvolutionSymmetricSpec.pre6 enc Try.prog Try.f7 Rows.fnSlotSwapInvolutionSymmetricRow.domain false) (Rows.fnSlotSwapInvolutionSymmetricSpec.post enc Try.prog Try.f7 false true false false) := by
  refine returnsInHanded_of_change (C := Try.checked) own started (by kernel_rfl) Try.func7
    (ChangeSpec.witness6 (enc := enc) (C := Try.checked) false ⟨#[], #[.slice none 0 0, .slice none 0 0, .int .i64 0, .int .i64 0], []⟩ 8 (by kernel_rfl) (by kernel_rfl) (by kernel_rfl) (by kernel_rfl)) ?_
  intro W base args ds gs before hval0 hW hcnd _
  have hval : ∀ (j : Nat) t v, Try.f7.params[j]? = some t → args[j]? = some v → Value.okWide Try.prog W .any base t v := hval0
  have hW' := hW
  obtain ⟨p, q, hA0, hV, rfl, hfz, hnd⟩ := hW
  have hA : DataW.TrodAll enc Try.prog W 0 (fun _ => true) true Try.f7.params.toList args.toList ds p := hA0
  rw [Try.params7] at hA hval
  obtain ⟨v0, vs0, d0, ds0, p0, q0, hargs, rfl, rfl, h0, r0⟩ := trodAll_cons hA
  obtain ⟨v1, vs1, d1, ds1, p1, q1, rfl, rfl, rfl, h1, r1⟩ := trodAll_cons r0
  obtain ⟨v2, vs2, d2, ds2, p2, q2, rfl, rfl, rfl, h2, r2⟩ := trodAll_cons r1
  obtain ⟨v3, vs3, d3, ds3, p3, q3, rfl, rfl, rfl, h3, r3⟩ := trodAll_cons r2
  obtain ⟨rfl, rfl, rfl⟩ := trodAll_nil r3
  obtain rfl : args = #[v0, v1, v2, v3] := by cases args; simp_all
  obtain ⟨rfl, rfl⟩ := trodVars_none hV
  obtain ⟨a0, len0, cap0, rfl⟩ := okWide_slice Try.underlying32 (hval 0 32 v0 rfl rfl)
  have k0 := h0
  have lt0 : ∀ x ∈ p0, x.block < W.heap.size := by obtain ⟨m, hm⟩ := k0; exact DataW.trod_lt m _ _ _ hm
  obtain ⟨z0, w0⟩ : ∃ zs, IsRow .u32 W a0 len0 cap0 zs := by
    obtain ⟨fuel, hf⟩ := h0
    rcases open_ints Try.underlying32 Try.underlying22 (by kernel_rfl) hf with ⟨hcs, _⟩ | ⟨x, l, c, zs, hcs, _, hl, hm, hz, _, hcell, hwz⟩
    · simp [Value.cells] at hcs
      obtain ⟨rfl, rfl, rfl⟩ := hcs
      exact ⟨[], .inl ⟨rfl, rfl, rfl, rfl⟩⟩
    · simp [Value.cells] at hcs
      obtain ⟨rfl, rfl, rfl⟩ := hcs
      exact ⟨zs, .inr ⟨_, rfl, hl, hm, by simpa using hz, hcell, hwz⟩⟩
  obtain ⟨a1, len1, cap1, rfl⟩ := okWide_slice Try.underlying32 (hval 1 32 v1 rfl rfl)
  have k1 := h1
  have lt1 : ∀ x ∈ p1, x.block < W.heap.size := by obtain ⟨m, hm⟩ := k1; exact DataW.trod_lt m _ _ _ hm
  obtain ⟨z1, w1⟩ : ∃ zs, IsRow .u32 W a1 len1 cap1 zs := by
    obtain ⟨fuel, hf⟩ := h1
    rcases open_ints Try.underlying32 Try.underlying22 (by kernel_rfl) hf with ⟨hcs, _⟩ | ⟨x, l, c, zs, hcs, _, hl, hm, hz, _, hcell, hwz⟩
    · simp [Value.cells] at hcs
      obtain ⟨rfl, rfl, rfl⟩ := hcs
      exact ⟨[], .inl ⟨rfl, rfl, rfl, rfl⟩⟩
    · simp [Value.cells] at hcs
      obtain ⟨rfl, rfl, rfl⟩ := hcs
      exact ⟨zs, .inr ⟨_, rfl, hl, hm, by simpa using hz, hcell, hwz⟩⟩
  obtain ⟨a2, rfl, rfl, rfl, w2⟩ := open_int Try.underlying3 (hval 2 3 v2 rfl rfl) h2
  obtain ⟨a3, rfl, rfl, rfl, w3⟩ := open_int Try.underlying3 (hval 3 3 v3 rfl rfl) h3
  clear hA0 hval0
  refine (walk a0 len0 cap0 z0 a1 len1 cap1 z1 a2 a3 W w0 w1 w2 w3).mono fun e W' ⟨he, bel⟩ => ?_
  subst he
  exact ⟨_, rfl, _, _, _, [], _, [], hW', trodAll_mk1 (shut_bool Try.underlying4 _), (trodAll_cons_mk (Below.trod laidOut (by kernel_rfl) (of_decide_eq_true (by kernel_rfl)) k0 bel lt0) (trodAll_cons_mk (Below.trod laidOut (by kernel_rfl) (of_decide_eq_true (by kernel_rfl)) k1 bel lt1) (trodAll_cons_mk (shut_int Try.underlying3 w2) (trodAll_cons_mk (shut_int Try.underlying3 w3) trodAll_mk0)))), rfl, bel.frame _, fun h => by cases h⟩

theorem over : Rows.fnSlotSwapInvolutionSymmetricRow.holds Try.pinned (OpenSpec.ofChange Rows.fnSlotSwapInvolutionSymmetricSpec) :=
  OpenClaim.holds_of_wide 7 Try.f7 rfl rfl rfl rfl rfl rfl rfl ⟨rfl, rfl, rfl, rfl, rfl⟩ rfl rfl rfl rfl rfl (by kernel_rfl) Try.func7 (by kernel_rfl)
    (of_decide_eq_true (by kernel_rfl)) (by unfold Func.isWrapper; first | (rw [if_pos (by decide +kernel)]; kernel_rfl) | (rw [if_neg (by decide +kernel)]; exact ⟨rfl, rfl⟩))
    (fun os started H enc _ => lifted os started H enc)

/-- THE STATEMENT -/
theorem proved : Rows.FnSlotSwapInvolutionSymmetricSaid := over
#print axioms proved
end Go.Proofs.Ytbicjmaogbaldab.fnSlotSwapInvolutionSymmetric
