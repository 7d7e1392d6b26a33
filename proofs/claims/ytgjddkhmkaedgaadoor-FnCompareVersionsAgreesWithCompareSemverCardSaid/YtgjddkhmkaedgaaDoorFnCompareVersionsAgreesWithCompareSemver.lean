/-
  For every table version, every list of parts and every pre-release text the law FnCompareVersionsAgreesWithCompareSemver returns true: where the first three parts are at most MaxInt/2 in magnitude, compareVersions equals CompareSemver against the three parts, except at a tie with a pre-release, where they answer 1 and its length (outside its bounds it returns true too). The card ties the variables that strconv names to the program's text.
-/
import Derived.Test.YtgjddkhmkaedgaaDoorCards
import Derived.Test.YtgjddkhmkaedgaaDoorTie
import Derived.WalkKit
import Derived.ProofKit
import Derived.OpenShut
import Derived.ShutString
import Derived.ChangeOld
import Derived.Below
import Derived.Deep.DeepHandedRow
import Derived.Deep.DeepWitnessRowRef
import Derived.Lib.LaidIn
import Derived.Lib.LaidSlice
import Derived.Lib.LaidU8
import Derived.PinnedBridge
import Derived.OpenVars
import Derived.WalkSpells
import Derived.WalkLawsBesides
import Derived.LoopTactic
import Derived.LoopN
import Derived.OwnWalk
import Derived.WalkSmall
import Derived.Lib.Hide
import Derived.Test.YtgjddkhmkaedgaaDoorCmp
namespace Go.Proofs.YtgjddkhmkaedgaaDoor.fnCompareVersionsAgreesWithCompareSemver
open Go.ChangeShapes Go.WideShapes Go.ChangeAt Go.RowKit
open Go.ChangeMaps (open_string shut_string)
set_option linter.unusedVariables false

theorem own : ownKnob Tryd.prog.godebug = none := by kernel_rfl
theorem laidOut : laidOutB Tryd.prog = true := by kernel_rfl

/-- WHAT THE WALK IS TOLD OF A SLICE OF INTEGERS THAT CAME IN: it is nil; or it leads to a row of 'cap' cells, the numbers 'zs' (the first 'len' are its elements, the rest its spare room), each fitting its kind. -/
def IsRow (k : IntKind) (w : World) (a : Option Addr) (len cap : Nat) (zs : List Int) : Prop :=
  (a = none ∧ len = 0 ∧ cap = 0 ∧ zs = []) ∨
  ∃ x, a = some x ∧ len ≤ cap ∧ cap ≤ maxLen ∧ zs.length = cap ∧ (∀ i, i < zs.length → w.cell? (x.add i) = some (.int k (zs.getD i 0))) ∧ ∀ n ∈ zs, (Lit.int k n).wf = true

theorem row_in {w : World} {a : Option Addr} {len cap : Nat} {z : List Int} (h : IsRow .i64 w a len cap z) : ∃ zs : List Int, zs.length = len ∧ In .i64 w a zs ∧ zs.length ≤ maxLen := by
  rcases h with ⟨rfl, rfl, rfl, rfl⟩ | ⟨x, rfl, h1, h2, h3, h4, _⟩
  · exact ⟨[], rfl, .inl rfl, by simp⟩
  · have hl : (z.take len).length = len := by rw [List.length_take]; omega
    refine ⟨z.take len, hl, ?_, by omega⟩
    by_cases h0 : len = 0
    · subst h0; exact .inl (by simp)
    · obtain ⟨b, off, spot⟩ := x
      have hc := h4 0 (by omega)
      have hspot : spot = none := by simpa [Addr.add] using World.cell?_spot hc
      subst hspot
      refine .inr ⟨b, off, rfl, World.block_lt_of_cell? w _ hc, fun i hi => ?_⟩
      have := h4 i (by omega)
      have e : (⟨b, off, none⟩ : Addr).add i = ⟨b, off + i, none⟩ := by unfold Addr.add; split <;> simp_all
      rw [e] at this
      rw [this, nth_take z len i (by omega)]; rfl
set_option maxHeartbeats 4000000 in
theorem good (M m p : Int) (a0 : Option Addr) (c0 : Nat) (Z : List Int) (s : ByteArray) (w : World) (hM : 0 ≤ M ∧ M ≤ 65535) (hm : 0 ≤ m ∧ m ≤ 255) (hp : 0 ≤ p ∧ p ≤ 255) (hZ : In .i64 w a0 Z) (h : Z.length * 8 + s.size ≤ 1048576) (hf : Fit Z) :
    Calls Tryd.prog 3 #[.int .u16 M, .int .u8 m, .int .u8 p, .slice a0 Z.length c0, .string s] w fun e w' => e = .returned (.bool true) ∧ Below w.heap.size w w' := by
  have H := Lib.hid (And.intro hZ hf)
  have h1 : Z.length ≤ 131072 := by omega
  have h2 : s.size ≤ 1048576 := by omega
  have d1 : decide ((131072 : Int) < (Z.length : Int)) = false := by simp; omega
  have d2 : decide ((1048576 : Int) < (s.size : Int)) = false := by simp; omega
  have HB3 : Hid (∀ i, i < 3 → (0 ≤ nth [M, m, p] i ∧ nth [M, m, p] i ≤ 65535) ∧ -4611686018427387903 ≤ nth Z i ∧ nth Z i ≤ 4611686018427387903) := Lib.hid fun i hi => by
    refine ⟨?_, ?_⟩
    · rcases (show i = 0 ∨ i = 1 ∨ i = 2 by omega) with rfl | rfl | rfl
      · exact hM
      · exact ⟨hm.1, by have := hm.2; show m ≤ 65535; omega⟩
      · exact ⟨hp.1, by have := hp.2; show p ≤ 65535; omega⟩
    · rcases (show i < Z.length ∨ Z.length ≤ i by omega) with h | h
      · exact hf i h hi
      · rw [nth_out Z i h]; omega
  have HW := Lib.hid (ways M m p Z s)
  obtain ⟨hM0, hM1⟩ := hM
  obtain ⟨hm0, hm1⟩ := hm
  obtain ⟨hp0, hp1⟩ := hp
  clear hZ hf
  go_enter Tryd.func3, Tryd.ntmps3
  go_wp2_with fail
  refine (bytes_yes _ _ _ _ _ _ _ _ (by omega)).mono ?_
  rintro e w1 ⟨rfl, rfl⟩
  go_wp2_with fail
  refine (fit_yes a0 c0 Z _ H.out.1 (by omega) H.out.2).mono ?_
  rintro e w1 ⟨rfl, rfl⟩
  go_wp2_with fail
  refine (cloneI_any a0 c0 Z _ H.out.1 (by omega)).mono ?_
  rintro e w2 ⟨v2, rfl, ho2, hb2⟩
  obtain ⟨ao, cap, rfl, hin2, hcap, hform⟩ := ho2.form
  have HB2 := Lib.hid (And.intro hb2 hin2)
  clear ho2 hb2 hin2
  go_wp2_with fail
  refine (zcv_any M m p ao cap Z s _ ⟨hM0, hM1⟩ ⟨hm0, hm1⟩ ⟨hp0, hp1⟩ HB2.out.2 (by omega) H.out.2 h2).mono ?_
  rintro e w3 ⟨he, b3⟩
  have HB3' := Lib.hid (And.intro (below_two HB2.out.1 b3) (HB2.out.2.kept b3))
  have HE := Lib.hid he
  clear he b3
  rcases hform with ⟨rfl, hz, rfl⟩ | ⟨g, rfl, _, _⟩
  · have hz' : Z.length = 0 := by rw [hz]; rfl
    clear hz
    rw [HE.out, hz']
    rw [hz'] at h1
    go_wp2_with fail
    refine (cs_any w3.heap.size 0 _ _ s [M, m, p] Z _ (in_three _ M m p) (HB3'.out.2.alloc _) rfl (.inl ⟨hz'.symm, by omega⟩) HB3.out h2).mono ?_
    rintro e w4 ⟨he4, b4⟩
    have HB4 := Lib.hid (And.intro (below_two HB3'.out.1 (below_new _ b4)) (HB3'.out.2.kept (below_new _ b4)))
    have HE4 := Lib.hid he4
    clear he4 b4
    rcases HW.out with ⟨t0, Q⟩ | ⟨t0, t1, Q⟩ | ⟨t0, t1, t2, Q⟩ | ⟨t0, t1, t2, t3, Q⟩ | ⟨t0, t1, t2, t3, Q, Q'⟩
    · rw [HE4.out, Q.out]
      go_wp2_with fail
      rw [← hz']; refine (part_in _ _ 0 _ Z _ rfl HB4.out.2 (by omega)).mono ?_
      rintro e w5 ⟨rfl, rfl⟩
      go_wp2
      go_ret
      exact ⟨rfl, HB4.out.1⟩
    · rw [HE4.out, Q.out]
      go_wp2_with fail
      rw [← hz']; refine (part_in _ _ 0 _ Z _ rfl HB4.out.2 (by omega)).mono ?_
      rintro e w5 ⟨rfl, rfl⟩
      go_wp2_with fail
      rw [← hz']; refine (part_in _ _ 1 _ Z _ rfl HB4.out.2 (by omega)).mono ?_
      rintro e w5 ⟨rfl, rfl⟩
      go_wp2
      go_ret
      exact ⟨rfl, HB4.out.1⟩
    · rw [HE4.out, Q.out]
      go_wp2_with fail
      rw [← hz']; refine (part_in _ _ 0 _ Z _ rfl HB4.out.2 (by omega)).mono ?_
      rintro e w5 ⟨rfl, rfl⟩
      go_wp2_with fail
      rw [← hz']; refine (part_in _ _ 1 _ Z _ rfl HB4.out.2 (by omega)).mono ?_
      rintro e w5 ⟨rfl, rfl⟩
      go_wp2_with fail
      rw [← hz']; refine (part_in _ _ 2 _ Z _ rfl HB4.out.2 (by omega)).mono ?_
      rintro e w5 ⟨rfl, rfl⟩
      go_wp2
      go_ret
      exact ⟨rfl, HB4.out.1⟩
    · rw [HE4.out, Q.out]
      obtain rfl : s = ⟨#[]⟩ := by
        apply ByteArray.ext
        exact Array.eq_empty_of_size_eq_zero t3
      clear t3
      go_wp2_with fail
      rw [← hz']; refine (part_in _ _ 0 _ Z _ rfl HB4.out.2 (by omega)).mono ?_
      rintro e w5 ⟨rfl, rfl⟩
      go_wp2_with fail
      rw [← hz']; refine (part_in _ _ 1 _ Z _ rfl HB4.out.2 (by omega)).mono ?_
      rintro e w5 ⟨rfl, rfl⟩
      go_wp2_with fail
      rw [← hz']; refine (part_in _ _ 2 _ Z _ rfl HB4.out.2 (by omega)).mono ?_
      rintro e w5 ⟨rfl, rfl⟩
      go_wp2
      go_ret
      exact ⟨rfl, HB4.out.1⟩
    · rw [HE4.out, Q.out, Q'.out]
      have E0 : s.toList.isEmpty = false := by
        have hne : ¬ s.data.toList = [] := fun hh => by
          have e : s.size = s.data.toList.length := Array.length_toList.symm
          rw [hh] at e
          exact t3 e
        rw [Lib.toList_data]
        simpa using hne
      have E1 : ¬ s.toList = [] := by intro h; rw [h] at E0; cases E0
      clear t3
      go_wp2_with fail
      rw [← hz']; refine (part_in _ _ 0 _ Z _ rfl HB4.out.2 (by omega)).mono ?_
      rintro e w5 ⟨rfl, rfl⟩
      go_wp2_with fail
      rw [← hz']; refine (part_in _ _ 1 _ Z _ rfl HB4.out.2 (by omega)).mono ?_
      rintro e w5 ⟨rfl, rfl⟩
      go_wp2_with fail
      rw [← hz']; refine (part_in _ _ 2 _ Z _ rfl HB4.out.2 (by omega)).mono ?_
      rintro e w5 ⟨rfl, rfl⟩
      go_wp2
      go_ret
      exact ⟨rfl, HB4.out.1⟩
  · rw [HE.out]
    rcases (show Z.length ≤ 3 ∨ 3 < Z.length by omega) with hk | hk
    · go_wp2_with fail
      refine (cs_any w3.heap.size Z.length _ _ s [M, m, p] Z _ (in_three _ M m p) (HB3'.out.2.alloc _) rfl (.inl ⟨rfl, hk⟩) HB3.out h2).mono ?_
      rintro e w4 ⟨he4, b4⟩
      have HB4 := Lib.hid (And.intro (below_two HB3'.out.1 (below_new _ b4)) (HB3'.out.2.kept (below_new _ b4)))
      have HE4 := Lib.hid he4
      clear he4 b4
      rcases HW.out with ⟨t0, Q⟩ | ⟨t0, t1, Q⟩ | ⟨t0, t1, t2, Q⟩ | ⟨t0, t1, t2, t3, Q⟩ | ⟨t0, t1, t2, t3, Q, Q'⟩
      · rw [HE4.out, Q.out]
        go_wp2_with fail
        refine (part_in _ _ 0 _ Z _ rfl HB4.out.2 (by omega)).mono ?_
        rintro e w5 ⟨rfl, rfl⟩
        go_wp2
        go_ret
        exact ⟨rfl, HB4.out.1⟩
      · rw [HE4.out, Q.out]
        go_wp2_with fail
        refine (part_in _ _ 0 _ Z _ rfl HB4.out.2 (by omega)).mono ?_
        rintro e w5 ⟨rfl, rfl⟩
        go_wp2_with fail
        refine (part_in _ _ 1 _ Z _ rfl HB4.out.2 (by omega)).mono ?_
        rintro e w5 ⟨rfl, rfl⟩
        go_wp2
        go_ret
        exact ⟨rfl, HB4.out.1⟩
      · rw [HE4.out, Q.out]
        go_wp2_with fail
        refine (part_in _ _ 0 _ Z _ rfl HB4.out.2 (by omega)).mono ?_
        rintro e w5 ⟨rfl, rfl⟩
        go_wp2_with fail
        refine (part_in _ _ 1 _ Z _ rfl HB4.out.2 (by omega)).mono ?_
        rintro e w5 ⟨rfl, rfl⟩
        go_wp2_with fail
        refine (part_in _ _ 2 _ Z _ rfl HB4.out.2 (by omega)).mono ?_
        rintro e w5 ⟨rfl, rfl⟩
        go_wp2
        go_ret
        exact ⟨rfl, HB4.out.1⟩
      · rw [HE4.out, Q.out]
        obtain rfl : s = ⟨#[]⟩ := by
          apply ByteArray.ext
          exact Array.eq_empty_of_size_eq_zero t3
        clear t3
        go_wp2_with fail
        refine (part_in _ _ 0 _ Z _ rfl HB4.out.2 (by omega)).mono ?_
        rintro e w5 ⟨rfl, rfl⟩
        go_wp2_with fail
        refine (part_in _ _ 1 _ Z _ rfl HB4.out.2 (by omega)).mono ?_
        rintro e w5 ⟨rfl, rfl⟩
        go_wp2_with fail
        refine (part_in _ _ 2 _ Z _ rfl HB4.out.2 (by omega)).mono ?_
        rintro e w5 ⟨rfl, rfl⟩
        go_wp2
        go_ret
        exact ⟨rfl, HB4.out.1⟩
      · rw [HE4.out, Q.out, Q'.out]
        have E0 : s.toList.isEmpty = false := by
          have hne : ¬ s.data.toList = [] := fun hh => by
            have e : s.size = s.data.toList.length := Array.length_toList.symm
            rw [hh] at e
            exact t3 e
          rw [Lib.toList_data]
          simpa using hne
        have E1 : ¬ s.toList = [] := by intro h; rw [h] at E0; cases E0
        clear t3
        go_wp2_with fail
        refine (part_in _ _ 0 _ Z _ rfl HB4.out.2 (by omega)).mono ?_
        rintro e w5 ⟨rfl, rfl⟩
        go_wp2_with fail
        refine (part_in _ _ 1 _ Z _ rfl HB4.out.2 (by omega)).mono ?_
        rintro e w5 ⟨rfl, rfl⟩
        go_wp2_with fail
        refine (part_in _ _ 2 _ Z _ rfl HB4.out.2 (by omega)).mono ?_
        rintro e w5 ⟨rfl, rfl⟩
        go_wp2
        go_ret
        exact ⟨rfl, HB4.out.1⟩
    · go_wp2_with fail
      refine (cs_any w3.heap.size 3 _ _ s [M, m, p] Z _ (in_three _ M m p) (HB3'.out.2.alloc _) rfl (.inr ⟨rfl, by omega⟩) HB3.out h2).mono ?_
      rintro e w4 ⟨he4, b4⟩
      have HB4 := Lib.hid (And.intro (below_two HB3'.out.1 (below_new _ b4)) (HB3'.out.2.kept (below_new _ b4)))
      have HE4 := Lib.hid he4
      clear he4 b4
      rcases HW.out with ⟨t0, Q⟩ | ⟨t0, t1, Q⟩ | ⟨t0, t1, t2, Q⟩ | ⟨t0, t1, t2, t3, Q⟩ | ⟨t0, t1, t2, t3, Q, Q'⟩
      · rw [HE4.out, Q.out]
        go_wp2_with fail
        refine (part_in _ _ 0 _ Z _ rfl HB4.out.2 (by omega)).mono ?_
        rintro e w5 ⟨rfl, rfl⟩
        go_wp2
        go_ret
        exact ⟨rfl, HB4.out.1⟩
      · rw [HE4.out, Q.out]
        go_wp2_with fail
        refine (part_in _ _ 0 _ Z _ rfl HB4.out.2 (by omega)).mono ?_
        rintro e w5 ⟨rfl, rfl⟩
        go_wp2_with fail
        refine (part_in _ _ 1 _ Z _ rfl HB4.out.2 (by omega)).mono ?_
        rintro e w5 ⟨rfl, rfl⟩
        go_wp2
        go_ret
        exact ⟨rfl, HB4.out.1⟩
      · rw [HE4.out, Q.out]
        go_wp2_with fail
        refine (part_in _ _ 0 _ Z _ rfl HB4.out.2 (by omega)).mono ?_
        rintro e w5 ⟨rfl, rfl⟩
        go_wp2_with fail
        refine (part_in _ _ 1 _ Z _ rfl HB4.out.2 (by omega)).mono ?_
        rintro e w5 ⟨rfl, rfl⟩
        go_wp2_with fail
        refine (part_in _ _ 2 _ Z _ rfl HB4.out.2 (by omega)).mono ?_
        rintro e w5 ⟨rfl, rfl⟩
        go_wp2
        go_ret
        exact ⟨rfl, HB4.out.1⟩
      · rw [HE4.out, Q.out]
        obtain rfl : s = ⟨#[]⟩ := by
          apply ByteArray.ext
          exact Array.eq_empty_of_size_eq_zero t3
        clear t3
        go_wp2_with fail
        refine (part_in _ _ 0 _ Z _ rfl HB4.out.2 (by omega)).mono ?_
        rintro e w5 ⟨rfl, rfl⟩
        go_wp2_with fail
        refine (part_in _ _ 1 _ Z _ rfl HB4.out.2 (by omega)).mono ?_
        rintro e w5 ⟨rfl, rfl⟩
        go_wp2_with fail
        refine (part_in _ _ 2 _ Z _ rfl HB4.out.2 (by omega)).mono ?_
        rintro e w5 ⟨rfl, rfl⟩
        go_wp2
        go_ret
        exact ⟨rfl, HB4.out.1⟩
      · rw [HE4.out, Q.out, Q'.out]
        have E0 : s.toList.isEmpty = false := by
          have hne : ¬ s.data.toList = [] := fun hh => by
            have e : s.size = s.data.toList.length := Array.length_toList.symm
            rw [hh] at e
            exact t3 e
          rw [Lib.toList_data]
          simpa using hne
        have E1 : ¬ s.toList = [] := by intro h; rw [h] at E0; cases E0
        clear t3
        go_wp2_with fail
        refine (part_in _ _ 0 _ Z _ rfl HB4.out.2 (by omega)).mono ?_
        rintro e w5 ⟨rfl, rfl⟩
        go_wp2_with fail
        refine (part_in _ _ 1 _ Z _ rfl HB4.out.2 (by omega)).mono ?_
        rintro e w5 ⟨rfl, rfl⟩
        go_wp2_with fail
        refine (part_in _ _ 2 _ Z _ rfl HB4.out.2 (by omega)).mono ?_
        rintro e w5 ⟨rfl, rfl⟩
        go_wp2
        go_ret
        exact ⟨rfl, HB4.out.1⟩

theorem walk (a0 : Int) (a1 : Int) (a2 : Int) (a3 : Option Addr) (len3 cap3 : Nat) (z3 : List Int) (a4 : ByteArray) (w : World) (w0 : (Lit.int .u16 a0).wf = true) (w1 : (Lit.int .u8 a1).wf = true) (w2 : (Lit.int .u8 a2).wf = true) (w3 : IsRow .i64 w a3 len3 cap3 z3) (w4 : a4.size ≤ maxLen) (hL : laidMetH Tryd.prog Rows.fnCompareVersionsAgreesWithCompareSemverRow.laid w) :
    Calls Tryd.prog 3 #[.int .u16 a0, .int .u8 a1, .int .u8 a2, .slice a3 len3 cap3, .string a4] w fun e w' => e = .returned (.bool true) ∧ Below w.heap.size w w' := by
  obtain ⟨Z, hx0, hI0, m0⟩ := row_in w3
  subst hx0
  have b0 := bounds_u16 w0
  have b1 := bounds_u8 w1
  have b2 := bounds_u8 w2
  by_cases hs : Z.length + a4.size ≤ 1048576
  rotate_left
  · exact bad1 _ _ _ _ _ _ _ _ (by omega) m0 w4
  by_cases hg : Z.length * 8 + a4.size ≤ 1048576
  rotate_left
  · exact bad2 _ _ _ _ _ _ _ _ hs (by omega)
  rcases fit_or Z with hf | ⟨k, k1, k2, k3, k4⟩
  · exact good _ _ _ _ _ Z a4 w b0 b1 b2 hI0 hg hf
  · exact bad3 _ _ _ _ _ k Z a4 w hI0 hg k1 k2 k3 k4

open Go.Lib
set_option maxRecDepth 100000 in
theorem contract (H : Type) (enc : TypeId × Value → H) (W : World) (base : Nat) (args : Array Value) (ds gs : List (DataW H)) (before : List MemPlace)
    (hval : ∀ (j : Nat) t v, Tryd.f3.params[j]? = some t → args[j]? = some v → Value.okWide Tryd.prog W .any base t v)
    (hW : DataW.Whole enc Tryd.prog Tryd.f3.params.toList Rows.fnCompareVersionsAgreesWithCompareSemverSpec.vars false W args.toList ds gs before) (hL : laidMetH Tryd.prog Rows.fnCompareVersionsAgreesWithCompareSemverRow.laid W) :
    Calls Tryd.prog 3 args W fun e W' => ∃ v, e = .returned v ∧ Rows.fnCompareVersionsAgreesWithCompareSemverSpec.post enc Tryd.prog Tryd.f3 false true false false W args v W' := by
  have hW' := hW
  obtain ⟨p, q, hA0, hV, rfl, hfz, hnd⟩ := hW
  have hA : DataW.TrodAll enc Tryd.prog W 0 (fun _ => true) true Tryd.f3.params.toList args.toList ds p := hA0
  rw [Tryd.params3] at hA hval
  obtain ⟨v0, vs0, d0, ds0, p0, q0, hargs, rfl, rfl, h0, r0⟩ := trodAll_cons hA
  obtain ⟨v1, vs1, d1, ds1, p1, q1, rfl, rfl, rfl, h1, r1⟩ := trodAll_cons r0
  obtain ⟨v2, vs2, d2, ds2, p2, q2, rfl, rfl, rfl, h2, r2⟩ := trodAll_cons r1
  obtain ⟨v3, vs3, d3, ds3, p3, q3, rfl, rfl, rfl, h3, r3⟩ := trodAll_cons r2
  obtain ⟨v4, vs4, d4, ds4, p4, q4, rfl, rfl, rfl, h4, r4⟩ := trodAll_cons r3
  obtain ⟨rfl, rfl, rfl⟩ := trodAll_nil r4
  obtain rfl : args = #[v0, v1, v2, v3, v4] := by cases args; simp_all
  obtain ⟨rfl, rfl⟩ := trodVars_none hV
  obtain ⟨a0, rfl, rfl, rfl, w0⟩ := open_int Tryd.underlying22 (hval 0 22 v0 rfl rfl) h0
  obtain ⟨a1, rfl, rfl, rfl, w1⟩ := open_int Tryd.underlying5 (hval 1 5 v1 rfl rfl) h1
  obtain ⟨a2, rfl, rfl, rfl, w2⟩ := open_int Tryd.underlying5 (hval 2 5 v2 rfl rfl) h2
  obtain ⟨a3, len3, cap3, rfl⟩ := okWide_slice Tryd.underlying23 (hval 3 23 v3 rfl rfl)
  have k3 := h3
  have lt3 : ∀ x ∈ p3, x.block < W.heap.size := by obtain ⟨m, hm⟩ := k3; exact DataW.trod_lt m _ _ _ hm
  obtain ⟨z3, w3⟩ : ∃ zs, IsRow .i64 W a3 len3 cap3 zs := by
    obtain ⟨fuel, hf⟩ := h3
    rcases open_ints Tryd.underlying23 Tryd.underlying3 (by kernel_rfl) hf with ⟨hcs, _⟩ | ⟨x, l, c, zs, hcs, _, hl, hm, hz, _, hcell, hwz⟩
    · simp [Value.cells] at hcs
      obtain ⟨rfl, rfl, rfl⟩ := hcs
      exact ⟨[], .inl ⟨rfl, rfl, rfl, rfl⟩⟩
    · simp [Value.cells] at hcs
      obtain ⟨rfl, rfl, rfl⟩ := hcs
      exact ⟨zs, .inr ⟨_, rfl, hl, hm, by simpa using hz, hcell, hwz⟩⟩
  obtain ⟨a4, rfl, rfl, rfl, w4⟩ := open_string Tryd.underlying9 (hval 4 9 v4 rfl rfl) h4
  clear hA0
  refine (walk a0 a1 a2 a3 len3 cap3 z3 a4 W w0 w1 w2 w3 w4 hL).mono fun e W' ⟨he, bel⟩ => ?_
  subst he
  exact ⟨_, rfl, _, _, _, [], _, [], hW', trodAll_mk1 (shut_bool Tryd.underlying4 _), (trodAll_cons_mk (shut_int Tryd.underlying22 w0) (trodAll_cons_mk (shut_int Tryd.underlying5 w1) (trodAll_cons_mk (shut_int Tryd.underlying5 w2) (trodAll_cons_mk (Below.trod laidOut (by kernel_rfl) (of_decide_eq_true (by kernel_rfl)) k3 bel lt3) (trodAll_cons_mk (shut_string Tryd.underlying9 w4) trodAll_mk0))))), rfl, bel.frame _, fun h => by cases h⟩


/-- a world for the witness: the settled one, the listed variables holding what their initialisers lay -/
noncomputable def laidWorld (os : Os) : World :=
  let N := (World.settled Tryd.prog os).heap.size
  let w0 := World.holding Tryd.prog os ⟨#[.cells #[.string ⟨#[118, 97, 108, 117, 101, 32, 111, 117, 116, 32, 111, 102, 32, 114, 97, 110, 103, 101]⟩] 69, .cells #[.string ⟨#[105, 110, 118, 97, 108, 105, 100, 32, 115, 121, 110, 116, 97, 120]⟩] 69], #[], []⟩
  let put (h : Array Obj) (g : Nat) (cs : Array Value) : Array Obj := h.modify g fun
    | .cells _ t frozen => .cells cs t frozen
    | o => o
  let h1 := put w0.heap 4 #[.int .u8 0, .int .u8 1, .int .u8 28, .int .u8 2, .int .u8 29, .int .u8 14, .int .u8 24, .int .u8 3, .int .u8 30, .int .u8 22, .int .u8 20, .int .u8 15, .int .u8 25, .int .u8 17, .int .u8 4, .int .u8 8, .int .u8 31, .int .u8 27, .int .u8 13, .int .u8 23, .int .u8 21, .int .u8 19, .int .u8 16, .int .u8 7, .int .u8 26, .int .u8 12, .int .u8 18, .int .u8 6, .int .u8 11, .int .u8 5, .int .u8 10, .int .u8 9]
  let h2 := put h1 5 #[.int .u8 0, .int .u8 1, .int .u8 56, .int .u8 2, .int .u8 57, .int .u8 49, .int .u8 28, .int .u8 3, .int .u8 61, .int .u8 58, .int .u8 42, .int .u8 50, .int .u8 38, .int .u8 29, .int .u8 17, .int .u8 4, .int .u8 62, .int .u8 47, .int .u8 59, .int .u8 36, .int .u8 45, .int .u8 43, .int .u8 51, .int .u8 22, .int .u8 53, .int .u8 39, .int .u8 33, .int .u8 30, .int .u8 24, .int .u8 18, .int .u8 12, .int .u8 5, .int .u8 63, .int .u8 55, .int .u8 48, .int .u8 27, .int .u8 60, .int .u8 41, .int .u8 37, .int .u8 16, .int .u8 46, .int .u8 35, .int .u8 44, .int .u8 21, .int .u8 52, .int .u8 32, .int .u8 23, .int .u8 11, .int .u8 54, .int .u8 26, .int .u8 40, .int .u8 15, .int .u8 34, .int .u8 20, .int .u8 31, .int .u8 10, .int .u8 25, .int .u8 14, .int .u8 19, .int .u8 9, .int .u8 13, .int .u8 8, .int .u8 7, .int .u8 6]
  let h3 := put h2 3 #[.int .u64 1, .int .u64 10, .int .u64 100, .int .u64 1000, .int .u64 10000, .int .u64 100000, .int .u64 1000000, .int .u64 10000000, .int .u64 100000000, .int .u64 1000000000, .int .u64 10000000000, .int .u64 100000000000, .int .u64 1000000000000, .int .u64 10000000000000, .int .u64 100000000000000, .int .u64 1000000000000000, .int .u64 10000000000000000, .int .u64 100000000000000000, .int .u64 1000000000000000000, .int .u64 10000000000000000000]
  let h4 := put h3 2 #[.iface 67 (.pointer (some ⟨N + 0, 0, none⟩))]
  let h5 := put h4 1 #[.iface 67 (.pointer (some ⟨N + 1, 0, none⟩))]
  { w0 with heap := h5 }

noncomputable abbrev N0 : Nat := (World.settled Tryd.prog default).heap.size
set_option maxRecDepth 1000000 in
theorem piece0 (os : Os) (args : Array Value) : LaidIn Tryd.prog ((laidWorld os).forCall (fun _ _ => 0) ⟨#[], args, []⟩).memory [("math/bits.deBruijn32tab", Rows.laid_math_bits_deBruijn32tab), ("math/bits.deBruijn64tab", Rows.laid_math_bits_deBruijn64tab), ("internal/strconv.uint64pow10", Rows.laid_internal_strconv_uint64pow10), ("strconv.ErrRange", Rows.laid_strconv_ErrRange), ("strconv.ErrSyntax", Rows.laid_strconv_ErrSyntax)] [4, 5, 3, 2, 1, N0 + 0, N0 + 1] :=
  LaidIn.of_run [4, 5, 3, 2, 1, N0 + 0, N0 + 1] 8 (by kernel_rfl) (by kernel_rfl) (by kernel_rfl) (by kernel_rfl)
set_option maxRecDepth 1000000 in
theorem laid_met (os : Os) (args : Array Value) : laidMet Tryd.prog Rows.fnCompareVersionsAgreesWithCompareSemverRow.laid ((laidWorld os).forCall (fun _ _ => 0) ⟨#[], args, []⟩).memory :=
  (piece0 os args).met
theorem witness_row (os : Os) {H : Type} (enc : TypeId × Value → H) :
    (OpenSpec.ofChange Rows.fnCompareVersionsAgreesWithCompareSemverSpec).preRow enc Tryd.prog Tryd.f3 Rows.fnCompareVersionsAgreesWithCompareSemverRow.domain false Rows.fnCompareVersionsAgreesWithCompareSemverRow.laid ((laidWorld os).forCall (fun _ _ => 0) ⟨#[], #[.int .u16 0, .int .u8 0, .int .u8 0, .slice none 0 0, .string ByteArray.empty], []⟩).memory #[.int .u16 0, .int .u8 0, .int .u8 0, .slice none 0 0, .string ByteArray.empty] := by
  have hw : (DataW.whole enc Tryd.prog ((laidWorld os).forCall (fun _ _ => 0) ⟨#[], #[.int .u16 0, .int .u8 0, .int .u8 0, .slice none 0 0, .string ByteArray.empty], []⟩).memory Tryd.f3.params.toList Rows.fnCompareVersionsAgreesWithCompareSemverSpec.vars false (#[.int .u16 0, .int .u8 0, .int .u8 0, .slice none 0 0, .string ByteArray.empty] : Array Value).toList 8).map (fun x => (x.1, x.2.1)) =
      some ([.lit (.int .u16 0), .lit (.int .u8 0), .lit (.int .u8 0), .nil, .lit (.string [])], []) := by kernel_rfl
  obtain ⟨⟨x1, x2, x3⟩, hx, hx1⟩ := Option.map_eq_some_iff.1 hw
  simp only [Prod.mk.injEq] at hx1
  obtain ⟨rfl, rfl⟩ := hx1
  exact OpenSpec.preRow_of_cond 8 hx (by kernel_rfl) (fun k hk => by cases hk) (by kernel_rfl) (laid_met os _)

set_option maxRecDepth 100000 in
theorem lifted (os : Os) (started : os.Started) (H : Type) (enc : TypeId × Value → H) (F : Stop.Interp) :
    ReturnsInHanded {} Tryd.checked os 3 .any ((OpenSpec.ofChange Rows.fnCompareVersionsAgreesWithCompareSemverSpec).preRow enc Tryd.prog Tryd.f3 Rows.fnCompareVersionsAgreesWithCompareSemverRow.domain false Rows.fnCompareVersionsAgreesWithCompareSemverRow.laid) (((OpenSpec.ofChange Rows.fnCompareVersionsAgreesWithCompareSemverSpec).at F).post enc Tryd.prog Tryd.f3 false true false false) := by
  refine returnsInHanded_of_row (C := Tryd.checked) (s := OpenSpec.ofChange Rows.fnCompareVersionsAgreesWithCompareSemverSpec) own started (by kernel_rfl) Tryd.func3
    (witness_row_atRef (enc := enc) (C := Tryd.checked) false (laidWorld os) #[.int .u16 0, .int .u8 0, .int .u8 0, .slice none 0 0, .string ByteArray.empty] rfl (by kernel_rfl) (by kernel_rfl) (by kernel_rfl) (witness_row os enc)) ?_
  intro W base args ds gs before hval hW _ _ _ hL _ _
  exact contract H enc W base args ds gs before hval hW hL

theorem said : Rows.FnCompareVersionsAgreesWithCompareSemverSaid :=
  OpenClaim.holds_of_cond 3 Tryd.f3 rfl rfl rfl rfl rfl rfl rfl ⟨rfl, rfl, rfl, rfl, rfl⟩ rfl rfl rfl rfl rfl (by kernel_rfl) Tryd.func3 (by kernel_rfl)
    (of_decide_eq_true (by kernel_rfl)) (by unfold Func.isWrapper; first | (rw [if_pos (by decide +kernel)]; kernel_rfl) | (rw [if_neg (by decide +kernel)]; exact ⟨rfl, rfl⟩))
    (fun os started H enc _ F => by rw [OpenClaim.pre_eq_preRow]; exact lifted os started H enc F)

/-- No parameter wants a stand-in; the program's own looks are off: what the card asks. -/
theorem plain7 (f : FuncId) (fn : Func) (hf : Tryd.pinned.checked.prog.funcNamed Rows.fnCompareVersionsAgreesWithCompareSemverRow.func = some f) (hfn : Tryd.pinned.checked.prog.funcs[f]? = some fn) :
    true = Tryd.pinned.checked.prog.looks [] ∧ ∀ (j : Nat) t, fn.params[j]? = some t → Tryd.pinned.checked.prog.wantsStandIn t = false := by
  obtain rfl : f = 3 := Option.some.inj ((show Tryd.prog.funcNamed Rows.fnCompareVersionsAgreesWithCompareSemverRow.func = some 3 by kernel_rfl).symm.trans hf) |>.symm
  obtain rfl : fn = Tryd.f3 := (Option.some.inj (Tryd.func3.symm.trans hfn)).symm
  refine ⟨by kernel_rfl, fun j t ht => ?_⟩
  rw [Tryd.params3] at ht
  have hm := Array.mem_of_getElem? ht
  have : t = 22 ∨ t = 5 ∨ t = 23 ∨ t = 9 := by simpa using hm
  rcases this with rfl | rfl | rfl | rfl
  · exact (show Tryd.prog.wantsStandIn 22 = false by kernel_rfl)
  · exact (show Tryd.prog.wantsStandIn 5 = false by kernel_rfl)
  · exact (show Tryd.prog.wantsStandIn 23 = false by kernel_rfl)
  · exact (show Tryd.prog.wantsStandIn 9 = false by kernel_rfl)

/-- the statement: the tied card -/
theorem proved : Rows.FnCompareVersionsAgreesWithCompareSemverCardSaid :=
  Claim7.holds_tied_plain_at .later [] _ _ _ _ said (fun _ h => by cases h) (by kernel_rfl) (fun _ h => by cases h) fnCompareVersionsAgreesWithCompareSemver_row_tie rfl ⟨rfl, rfl⟩ (by kernel_rfl) rfl plain7 (by kernel_rfl)
#print axioms proved
end Go.Proofs.YtgjddkhmkaedgaaDoor.fnCompareVersionsAgreesWithCompareSemver
