/-
  For every prefix and every int v the law FnEncodeVLQMatchesDigitModel returns true: where |v| is at most 2^30-1, encodeVLQ keeps the prefix and appends 1 to 7 base64 digits, all but the last with the continuation bit, whose base-32 value is 2|v| (+1 when v is negative), without a superfluous high zero digit (outside the bounds it returns true too). The card ties the variable base64 to the program's text.
-/
import Derived.Test.YtfennlkojhnhjaaDoorCards
import Derived.Test.YtfennlkojhnhjaaDoorTie
import Derived.WalkKit
import Derived.ProofKit
import Derived.OpenShut
import Derived.ShutString
import Derived.ChangeOld
import Derived.Below
import Derived.Deep.DeepHandedRow
import Derived.Deep.DeepWitnessRowRef
import Derived.Lib.LaidIn
import Derived.Lib.LaidSlice
import Derived.Lib.LaidU8
import Derived.PinnedBridge
import Derived.OpenVars
import Derived.WalkSpells
import Derived.WalkLawsBesides
import Derived.LoopTactic
import Derived.RegionTactic
import Derived.ChangeAlike
import Derived.BigQuiet
import Derived.Deep.QuietTactic
import Derived.OwnWalk
import Derived.WalkSmall
import Derived.Lib.Quote
import Derived.Lib.LaidPrint
import Derived.Laws.BitsAllLaws
import Derived.Test.YtfennlkojhnhjaaDoorEnc
namespace Go.Proofs.YtfennlkojhnhjaaDoor.fnEncodeVLQMatchesDigitModel
open Go.ChangeShapes Go.WideShapes Go.ChangeAt Go.RowKit
open Go.ChangeMaps (open_string shut_string)
set_option linter.unusedVariables false

theorem own : ownKnob Tryd.prog.godebug = none := by kernel_rfl
theorem laidOut : laidOutB Tryd.prog = true := by kernel_rfl

/-- WHAT THE WALK IS TOLD OF A SLICE OF INTEGERS THAT CAME IN: it is nil; or it leads to a row of 'cap' cells, the numbers 'zs' (the first 'len' are its elements, the rest its spare room), each fitting its kind. -/
def IsRow (k : IntKind) (w : World) (a : Option Addr) (len cap : Nat) (zs : List Int) : Prop :=
  (a = none ∧ len = 0 ∧ cap = 0 ∧ zs = []) ∨
  ∃ x, a = some x ∧ len ≤ cap ∧ cap ≤ maxLen ∧ zs.length = cap ∧ (∀ i, i < zs.length → w.cell? (x.add i) = some (.int k (zs.getD i 0))) ∧ ∀ n ∈ zs, (Lit.int k n).wf = true

theorem row_in {k : IntKind} {w : World} {a : Option Addr} {len cap : Nat} {z : List Int} (h : IsRow k w a len cap z) : ∃ zs : List Int, zs.length = len ∧ In k w a zs ∧ zs.length ≤ maxLen := by
  rcases h with ⟨rfl, rfl, rfl, rfl⟩ | ⟨x, rfl, h1, h2, h3, h4, _⟩
  · exact ⟨[], rfl, .inl rfl, by simp⟩
  · have hl : (z.take len).length = len := by rw [List.length_take]; omega
    refine ⟨z.take len, hl, ?_, by omega⟩
    by_cases h0 : len = 0
    · subst h0; exact .inl (by simp)
    · obtain ⟨b, off, spot⟩ := x
      have hc := h4 0 (by omega)
      have hspot : spot = none := by simpa [Addr.add] using World.cell?_spot hc
      subst hspot
      refine .inr ⟨b, off, rfl, World.block_lt_of_cell? w _ hc, fun i hi => ?_⟩
      have := h4 i (by omega)
      have e : (⟨b, off, none⟩ : Addr).add i = ⟨b, off + i, none⟩ := by unfold Addr.add; split <;> simp_all
      rw [e] at this
      rw [this, nth_take z len i (by omega)]; rfl
theorem bytes_yes (a0 : Option Addr) (n0 c0 : Nat) (z : Int) (w : World) (h : n0 ≤ 1048576) : Calls Tryd.prog 14 #[.slice a0 n0 c0, .int .i64 z] w fun e w' => e = .returned (.bool true) ∧ w' = w := by
  go_enter Tryd.func14, Tryd.ntmps14
  go_wp2
  go_ret
  exact ⟨rfl, rfl⟩
theorem bytes_no (a0 : Option Addr) (n0 c0 : Nat) (z : Int) (w : World) (h : 1048576 < n0) : Calls Tryd.prog 14 #[.slice a0 n0 c0, .int .i64 z] w fun e w' => e = .returned (.bool false) ∧ w' = w := by
  go_enter Tryd.func14, Tryd.ntmps14
  go_wp2
  go_ret
  exact ⟨rfl, rfl⟩
theorem bad1 (a0 : Option Addr) (n0 c0 : Nat) (z : Int) (w : World) (h : 1048576 < n0) : Calls Tryd.prog 4 #[.slice a0 n0 c0, .int .i64 z] w fun e w' => e = .returned (.bool true) ∧ Below w.heap.size w w' := by
  go_enter Tryd.func4, Tryd.ntmps4
  go_wp2_with fail
  refine (bytes_no _ _ _ _ _ h).mono ?_
  rintro e w1 ⟨rfl, rfl⟩
  go_wp2
  go_ret
  exact ⟨rfl, Below.refl _ _⟩
theorem bad2 (a0 : Option Addr) (n0 c0 : Nat) (z : Int) (w : World) (h : n0 ≤ 1048576) (k : 65536 < n0 ∨ (n0 ≤ 65536 ∧ 1073741823 < z) ∨ (n0 ≤ 65536 ∧ z < -1073741823)) : Calls Tryd.prog 4 #[.slice a0 n0 c0, .int .i64 z] w fun e w' => e = .returned (.bool true) ∧ Below w.heap.size w w' := by
  rcases k with k | ⟨k, k1⟩ | ⟨k, k1⟩
  all_goals
    go_enter Tryd.func4, Tryd.ntmps4
    go_wp2_with fail
    refine (bytes_yes _ _ _ _ _ h).mono ?_
    rintro e w1 ⟨rfl, rfl⟩
    go_wp2
    go_ret
    exact ⟨rfl, Below.refl _ _⟩
theorem enc_len (z : Int) : 1 ≤ (enc z).length ∧ (enc z).length ≤ 7 := by
  unfold enc
  rw [List.length_map]
  exact ⟨dgs_pos 6 _, dgs_le 7 _⟩
set_option maxHeartbeats 2000000 in
theorem good (a0 : Option Addr) (c0 : Nat) (xs : List Int) (z : Int) (w : World) (ht : Tab w w.heap.size) (hin : In .u8 w a0 xs) (hl : xs.length ≤ 65536) (hz0 : -1073741823 ≤ z) (hz1 : z ≤ 1073741823) :
    Calls Tryd.prog 4 #[.slice a0 xs.length c0, .int .i64 z] w fun e w' => e = .returned (.bool true) ∧ Below w.heap.size w w' := by
  have HT := Lib.hid ht
  have HI := Lib.hid hin
  have d0 : decide ((65536 : Int) < (xs.length : Int)) = false := by simp; omega
  have d1 : decide ((1073741823 : Int) < z) = false := by simp; omega
  have d2 : decide (z < (-1073741823 : Int)) = false := by simp; omega
  clear ht hin
  go_enter Tryd.func4, Tryd.ntmps4
  go_wp2_with fail
  refine (bytes_yes _ _ _ _ _ (by omega)).mono ?_
  rintro e w1 ⟨rfl, rfl⟩
  go_wp2_with fail
  refine (copyB_any a0 c0 xs _ HI.out (by omega)).mono ?_
  rintro e w2 ⟨v2, rfl, ho2, hb2⟩
  obtain ⟨ao, cap, rfl, hin2, _, _⟩ := ho2.form
  have HB2 := Lib.hid hb2
  have HI2 := Lib.hid hin2
  clear ho2 hb2 hin2
  go_wp2_with fail
  refine (copyB_any ao cap xs _ HI2.out (by omega)).mono ?_
  rintro e w3 ⟨v3, rfl, ho3, hb3⟩
  have HB3 := Lib.hid (And.intro hb3 ho3)
  have HT3 := Lib.hid (HT.out.below (below_two HB2.out hb3))
  have hs3 : w1.heap.size ≤ w3.heap.size := (below_two HB2.out hb3).size
  clear ho3 hb3
  go_wp2_with fail
  refine (zzenc_any w1.heap.size v3 xs z _ HT3.out hs3 (HB3.out.2.mono HB2.out.size) hz0 hz1 (by omega)).mono ?_
  rintro e w4 ⟨v4, rfl, ho4, hg4, hn4⟩
  obtain ⟨D, hD⟩ : ∃ D, D = dgs 7 (vlq z) := ⟨_, rfl⟩
  obtain ⟨zs, hzs⟩ : ∃ zs, zs = xs ++ enc z := ⟨_, rfl⟩
  have hel := enc_len z
  have hDl : D.length = (enc z).length := by rw [hD, enc, List.length_map]
  obtain ⟨l, hll⟩ : ∃ l, (enc z).length = l + 1 := ⟨(enc z).length - 1, by omega⟩
  have hzl : zs.length = xs.length + (l + 1) := by rw [hzs, List.length_append, hll]
  rw [← hzs] at ho4
  obtain ⟨ao4, cap4, rfl, hin4, hcap4, hg⟩ := ho4.form
  rcases hg with ⟨_, h, _⟩ | ⟨g, rfl, hBg, hgl⟩
  · rw [h] at hzl; simp at hzl
  have B24 : Below w2.heap.size w2 w4 := hg4.below HB3.out.1 HB3.out.1.size (fun g h => (HB3.out.2.lt g h).1)
  have HB4 := Lib.hid (And.intro (below_two HB2.out B24) (And.intro (HI2.out.kept B24) hin4))
  have hVb : vlq z < 32 ^ 7 := by unfold vlq; split <;> omega
  have HD := Lib.hid hD
  have HZ := Lib.hid (And.intro hzs hzl)
  have HDL : Hid (D.length = l + 1) := Lib.hid (by omega)
  have hl7 : l ≤ 6 := by omega
  have hcp : xs.length + (l + 1) ≤ cap4 := by omega
  rw [hzl]
  clear ho4 hg4 hn4 hin4 B24 hD hzs hel hDl hll hzl hcap4
  go_wp2_with fail
  refine (pre_any _ _ _ _ _ xs (enc z) zs _ HZ.out.1 HZ.out.2 HB4.out.2.2 HB4.out.2.1 (by have := HZ.out.2; omega)).mono ?_
  rintro e w5 ⟨rfl, b5⟩
  have HB5 := Lib.hid (And.intro (below_two HB4.out.1 b5) (HB4.out.2.2.kept b5))
  clear b5
  have hnc : ¬ cap4 = xs.length := by omega
  have t1 : ((l : Int) + 1 == 0) = false := by simp; omega
  have t2 : decide ((7 : Int) < (l : Int) + 1) = false := by simp; omega
  have Hval := Lib.hid (show val D = vlq z by rw [HD.out]; exact dgs_val 7 _ hVb)
  have Hcell : Hid (∀ i, i < l + 1 → w5.cell? ⟨g, xs.length + i, none⟩ = some (.int .u8 ((b64at (D.getD i 0) : Nat) : Int)) ∧ D.getD i 0 < 64 ∧ (32 ≤ D.getD i 0 ↔ i < l)) := Lib.hid (by
    intro i hi
    have hc := HB5.out.2
    have hil : i < D.length := by rw [HDL.out]; exact hi
    rcases hc with h | ⟨b, off, hx, _, hc⟩
    · have := HZ.out.2; rw [h] at this; simp at this
    · cases hx
      have hcc := hc (xs.length + i) (by rw [HZ.out.2]; omega)
      rw [Nat.zero_add] at hcc
      have hnn : nth zs (xs.length + i) = ((b64at (D.getD i 0) : Nat) : Int) := by
        rw [HZ.out.1, nth, List.getD_eq_getElem?_getD, List.getElem?_append_right (by omega), Nat.add_sub_cancel_left, enc, ← HD.out]
        simp [hil]
      rw [hnn] at hcc
      refine ⟨hcc, dgs_lt 7 (vlq z) _ (by rw [← HD.out]; simp [hil]), ?_⟩
      have := dgs_cont 7 (vlq z) hVb i (by rw [← HD.out]; exact hil)
      rw [← HD.out, HDL.out] at this
      omega)
  have Hlast : Hid (0 < l → D.getD l 0 % 32 ≠ 0) := Lib.hid (fun h => by
    have := dgs_last 7 (vlq z) hVb (by rw [← HD.out, HDL.out]; omega)
    rw [← HD.out, HDL.out] at this
    exact this)
  have hvb : ∀ j, val (D.drop j) < 2147483648 := fun j => by
    have h1 := val_drop_le D j
    have h2 := Hval.out
    have h3 : vlq z < 2147483648 := by unfold vlq; split <;> omega
    omega
  have HVB := Lib.hid hvb
  clear hvb
  have hcz : (z < 0 ∧ Hid (((vlq z : Nat) : Int) = -z * 2 + 1)) ∨ (0 ≤ z ∧ Hid (((vlq z : Nat) : Int) = z * 2)) := by
    by_cases h : z < 0
    · exact .inl ⟨h, Lib.hid (by unfold vlq; rw [if_pos h]; omega)⟩
    · exact .inr ⟨by omega, Lib.hid (by unfold vlq; rw [if_neg h]; omega)⟩
  clear hVb
  rcases hcz with ⟨hz, HW⟩ | ⟨hz, HW⟩
  all_goals
    go_wp2
    go_loopw [9, 10] (fun a b wr => ∃ j : Nat, j ≤ l + 1 ∧ b = .int .i64 ((j : Int) - 1) ∧ a = .int .i64 ((val (D.drop j) : Nat) : Int) ∧ wr = w5) (fun _ b _ => ((intOf b) + 1).toNat)
    case atStart => exact ⟨l + 1, Nat.le_refl _, by congr 1; omega, by rw [List.drop_eq_nil_of_le (by rw [HDL.out]; omega)]; rfl, rfl⟩
    case round =>
      obtain ⟨j, hj, rfl, rfl, rfl⟩ := hrel
      rcases j with _ | i
      · first
          | (have t3 : (((vlq z : Nat) : Int) != -z * 2 + 1) = false := by rw [HW.out]; simp)
          | (have t3 : (((vlq z : Nat) : Int) != z * 2) = false := by rw [HW.out]; simp)
        rw [List.drop_zero, Hval.out]
        have c1 := Hcell.out l (by omega)
        obtain ⟨d, hd⟩ : ∃ d, d = D.getD l 0 := ⟨_, rfl⟩
        obtain ⟨r, hr⟩ : ∃ r, r = d % 32 := ⟨_, rfl⟩
        rw [← hd] at c1
        have HDD := Lib.hid hd
        have HRR := Lib.hid hr
        obtain ⟨c1, c2, c3⟩ := c1
        have e1 : bits .and .i64 (d : Int) 31 = (r : Int) := by rw [and31 d (by omega), hr]
        clear c3 hd hr
        rcases Nat.eq_zero_or_pos l with hl0 | hl0
        · have k1 : decide ((0 : Int) < (l : Int)) = false := by simp; omega
          have k2 : decide (0 < l) = false := by simp; omega
          have k3 : l ≤ 0 := by omega
          clear hl0
          go_wp2
          go_ret
          exact ⟨rfl, HB5.out.1⟩
        · have k1 : decide ((0 : Int) < (l : Int)) = true := by simp; omega
          have k2 : decide (0 < l) = true := by simp; omega
          have k3 : ((r : Int) == 0) = false := by
            have := Hlast.out hl0
            rw [← HDD.out, ← HRR.out] at this
            simp; omega
          go_wp2_with fail
          refine (bi_any _ _ (by omega) (by have := b64_lt d c2; omega)).mono ?_
          rintro e w6 ⟨he, rfl⟩
          rw [bi_b64 d c2] at he
          subst he
          go_wp2
          go_ret
          exact ⟨rfl, HB5.out.1⟩
      · have ei : (((i + 1 : Nat) : Int) - 1) = (i : Int) := by omega
        rw [ei]
        clear ei
        have c1 := Hcell.out i (by omega)
        have hvd : val (D.drop i) = D.getD i 0 % 32 + 32 * val (D.drop (i + 1)) := val_drop D i (by rw [HDL.out]; omega)
        have hb1 := HVB.out (i + 1)
        have hb2 := HVB.out i
        obtain ⟨d, hd⟩ : ∃ d, d = D.getD i 0 := ⟨_, rfl⟩
        obtain ⟨r, hr⟩ : ∃ r, r = d % 32 := ⟨_, rfl⟩
        obtain ⟨V1, hV1⟩ : ∃ V1, V1 = val (D.drop (i + 1)) := ⟨_, rfl⟩
        rw [← hd] at c1
        rw [← hV1] at hb1
        rw [← hd, ← hr, ← hV1] at hvd
        rw [← hV1]
        obtain ⟨c1, c2, c3⟩ := c1
        have e1 : bits .and .i64 (d : Int) 31 = (r : Int) := by rw [and31 d (by omega), hr]
        have hr32 : r < 32 := by omega
        have HVD := Lib.hid hvd
        have i0 : (0 : Int) ≤ (i : Int) := by omega
        have i1 : (i : Int) < (l : Int) + 1 := by omega
        have k0 : decide ((d : Int) < 0) = false := by simp
        clear hd hr hV1 hvd hb2
        rcases (show (i < l ∧ 32 ≤ d) ∨ (¬ i < l ∧ ¬ 32 ≤ d) by omega) with ⟨s1, s2⟩ | ⟨s1, s2⟩
        all_goals
          first
            | (have e2 : bits .and .i64 (d : Int) 32 = 32 := by rw [and32_i d c2, if_pos s2])
            | (have e2 : bits .and .i64 (d : Int) 32 = 0 := by rw [and32_i d c2, if_neg s2])
          clear c3
          go_wp2_with fail
          refine (bi_any _ _ (by omega) (by have := b64_lt d c2; omega)).mono ?_
          rintro e w6 ⟨he, rfl⟩
          rw [bi_b64 d c2] at he
          subst he
          go_wp2
          go_roundw
          case rel => exact ⟨i, by omega, by congr 1, by rw [HVD.out]; congr 1; omega, trivial⟩
          case measure => simp [RowKit.intOf]

theorem walk (a0 : Option Addr) (len0 cap0 : Nat) (z0 : List Int) (a1 : Int) (w : World) (w0 : IsRow .u8 w a0 len0 cap0 z0) (w1 : (Lit.int .i64 a1).wf = true) (hL : laidMetH Tryd.prog Rows.fnEncodeVLQMatchesDigitModelRow.laid w) :
    Calls Tryd.prog 4 #[.slice a0 len0 cap0, .int .i64 a1] w fun e w' => e = .returned (.bool true) ∧ Below w.heap.size w w' := by
  obtain ⟨xs, hx0, hI0, m0⟩ := row_in w0
  subst hx0
  have ht : Tab w w.heap.size := Tab.of (Lib.tabSlice_of_reads (P := Tryd.prog) (t := 31) (e := 5) (by kernel_rfl) (by kernel_rfl) Tryd.underlying31 Tryd.underlying5 (by kernel_rfl) (by decide) (Lib.laidMet.reads hL (.head _)))
  by_cases hs : xs.length ≤ 1048576
  rotate_left
  · exact bad1 _ _ _ _ _ (by omega)
  by_cases hg : xs.length ≤ 65536 ∧ -1073741823 ≤ a1 ∧ a1 ≤ 1073741823
  · exact good _ _ xs a1 w ht hI0 hg.1 hg.2.1 hg.2.2
  · exact bad2 _ _ _ _ _ hs (by omega)

open Go.Lib
set_option maxRecDepth 100000 in
theorem contract (H : Type) (enc : TypeId × Value → H) (W : World) (base : Nat) (args : Array Value) (ds gs : List (DataW H)) (before : List MemPlace)
    (hval : ∀ (j : Nat) t v, Tryd.f4.params[j]? = some t → args[j]? = some v → Value.okWide Tryd.prog W .any base t v)
    (hW : DataW.Whole enc Tryd.prog Tryd.f4.params.toList Rows.fnEncodeVLQMatchesDigitModelSpec.vars false W args.toList ds gs before) (hL : laidMetH Tryd.prog Rows.fnEncodeVLQMatchesDigitModelRow.laid W) :
    Calls Tryd.prog 4 args W fun e W' => ∃ v, e = .returned v ∧ Rows.fnEncodeVLQMatchesDigitModelSpec.post enc Tryd.prog Tryd.f4 false true false false W args v W' := by
  have hW' := hW
  obtain ⟨p, q, hA0, hV, rfl, hfz, hnd⟩ := hW
  have hA : DataW.TrodAll enc Tryd.prog W 0 (fun _ => true) true Tryd.f4.params.toList args.toList ds p := hA0
  rw [Tryd.params4] at hA hval
  obtain ⟨v0, vs0, d0, ds0, p0, q0, hargs, rfl, rfl, h0, r0⟩ := trodAll_cons hA
  obtain ⟨v1, vs1, d1, ds1, p1, q1, rfl, rfl, rfl, h1, r1⟩ := trodAll_cons r0
  obtain ⟨rfl, rfl, rfl⟩ := trodAll_nil r1
  obtain rfl : args = #[v0, v1] := by cases args; simp_all
  obtain ⟨g1, rfl⟩ : ∃ g1, gs = [g1] := by
    clear hW'
    rcases gs with _ | ⟨x1, gs⟩
    · exact hV.elim
    obtain ⟨_, _, _, _, _, q, _, _, _, _, hV, _⟩ := hV
    rcases gs with _ | ⟨y, gs⟩
    · exact ⟨x1, rfl⟩
    · exact hV.elim
  obtain ⟨a0, len0, cap0, rfl⟩ := okWide_slice Tryd.underlying31 (hval 0 31 v0 rfl rfl)
  have k0 := h0
  have lt0 : ∀ x ∈ p0, x.block < W.heap.size := by obtain ⟨m, hm⟩ := k0; exact DataW.trod_lt m _ _ _ hm
  obtain ⟨z0, w0⟩ : ∃ zs, IsRow .u8 W a0 len0 cap0 zs := by
    obtain ⟨fuel, hf⟩ := h0
    rcases open_ints Tryd.underlying31 Tryd.underlying5 (by kernel_rfl) hf with ⟨hcs, _⟩ | ⟨x, l, c, zs, hcs, _, hl, hm, hz, _, hcell, hwz⟩
    · simp [Value.cells] at hcs
      obtain ⟨rfl, rfl, rfl⟩ := hcs
      exact ⟨[], .inl ⟨rfl, rfl, rfl, rfl⟩⟩
    · simp [Value.cells] at hcs
      obtain ⟨rfl, rfl, rfl⟩ := hcs
      exact ⟨zs, .inr ⟨_, rfl, hl, hm, by simpa using hz, hcell, hwz⟩⟩
  obtain ⟨a1, rfl, rfl, rfl, w1⟩ := open_int Tryd.underlying3 (hval 1 3 v1 rfl rfl) h1
  clear hA0
  refine (walk a0 len0 cap0 z0 a1 W w0 w1 hL).mono fun e W' ⟨he, bel⟩ => ?_
  subst he
  exact ⟨_, rfl, _, _, _, [], _, q, hW', trodAll_mk1 (shut_bool Tryd.underlying4 _), (trodAll_cons_mk (Below.trod laidOut (by kernel_rfl) (of_decide_eq_true (by kernel_rfl)) k0 bel lt0) (trodAll_cons_mk (shut_int Tryd.underlying3 w1) trodAll_mk0)), Below.trodVars laidOut bel (by kernel_rfl) hV, bel.frame _, fun h => by cases h⟩

def tab_laid_github_com_evanw_esbuild_internal_sourcemap_base64 : List Nat := [65, 66, 67, 68, 69, 70, 71, 72, 73, 74, 75, 76, 77, 78, 79, 80, 81, 82, 83, 84, 85, 86, 87, 88, 89, 90, 97, 98, 99, 100, 101, 102, 103, 104, 105, 106, 107, 108, 109, 110, 111, 112, 113, 114, 115, 116, 117, 118, 119, 120, 121, 122, 48, 49, 50, 51, 52, 53, 54, 55, 56, 57, 43, 47]
/-- a world for the witness: the settled one, the listed variables holding what their initialisers lay -/
noncomputable def laidWorld (os : Os) : World :=
  let N := (World.settled Tryd.prog os).heap.size
  let w0 := World.holding Tryd.prog os ⟨#[.cells (intCellsOf .u8 tab_laid_github_com_evanw_esbuild_internal_sourcemap_base64) 5], #[], []⟩
  let put (h : Array Obj) (g : Nat) (cs : Array Value) : Array Obj := h.modify g fun
    | .cells _ t frozen => .cells cs t frozen
    | o => o
  let h1 := put w0.heap 0 #[.slice (some ⟨N + 0, 0, none⟩) 64 64]
  { w0 with heap := h1 }

noncomputable abbrev N0 : Nat := (World.settled Tryd.prog default).heap.size
set_option maxRecDepth 1000000 in
theorem piece0 (os : Os) (args : Array Value) : LaidIn Tryd.prog ((laidWorld os).forCall (fun _ _ => 0) ⟨#[], args, []⟩).memory [("github.com/evanw/esbuild/internal/sourcemap.base64", Lib.sliceData .u8 tab_laid_github_com_evanw_esbuild_internal_sourcemap_base64)] [0, N0 + 0] :=
  laidIn_slice (t := 31) (e := 5) (te := 5) tab_laid_github_com_evanw_esbuild_internal_sourcemap_base64 (N0 + 0) (by kernel_rfl) (by kernel_rfl) (by kernel_rfl) (by kernel_rfl) (by kernel_rfl) (by kernel_rfl) (by kernel_rfl) (by kernel_rfl) (of_decide_eq_true (by kernel_rfl)) (of_decide_eq_true (by kernel_rfl))
set_option maxRecDepth 1000000 in
theorem laid_met (os : Os) (args : Array Value) : laidMet Tryd.prog Rows.fnEncodeVLQMatchesDigitModelRow.laid ((laidWorld os).forCall (fun _ _ => 0) ⟨#[], args, []⟩).memory :=
  (piece0 os args).met
theorem witness_row (os : Os) {H : Type} (enc : TypeId × Value → H) :
    (OpenSpec.ofChange Rows.fnEncodeVLQMatchesDigitModelSpec).preRow enc Tryd.prog Tryd.f4 Rows.fnEncodeVLQMatchesDigitModelRow.domain false Rows.fnEncodeVLQMatchesDigitModelRow.laid ((laidWorld os).forCall (fun _ _ => 0) ⟨#[], #[.slice none 0 0, .int .i64 0], []⟩).memory #[.slice none 0 0, .int .i64 0] := by
  have hw : (DataW.whole enc Tryd.prog ((laidWorld os).forCall (fun _ _ => 0) ⟨#[], #[.slice none 0 0, .int .i64 0], []⟩).memory Tryd.f4.params.toList Rows.fnEncodeVLQMatchesDigitModelSpec.vars false (#[.slice none 0 0, .int .i64 0] : Array Value).toList 8).map (fun x => (x.1, x.2.1)) =
      some ([.nil, .lit (.int .i64 0)], [Rows.laid_github_com_evanw_esbuild_internal_sourcemap_base64]) := by kernel_rfl
  obtain ⟨⟨x1, x2, x3⟩, hx, hx1⟩ := Option.map_eq_some_iff.1 hw
  simp only [Prod.mk.injEq] at hx1
  obtain ⟨rfl, rfl⟩ := hx1
  exact OpenSpec.preRow_of_cond 8 hx (by kernel_rfl) (fun k hk => by cases hk) (by kernel_rfl) (laid_met os _)

set_option maxRecDepth 100000 in
theorem lifted (os : Os) (started : os.Started) (H : Type) (enc : TypeId × Value → H) (F : Stop.Interp) :
    ReturnsInHanded {} Tryd.checked os 4 .any ((OpenSpec.ofChange Rows.fnEncodeVLQMatchesDigitModelSpec).preRow enc Tryd.prog Tryd.f4 Rows.fnEncodeVLQMatchesDigitModelRow.domain false Rows.fnEncodeVLQMatchesDigitModelRow.laid) (((OpenSpec.ofChange Rows.fnEncodeVLQMatchesDigitModelSpec).at F).post enc Tryd.prog Tryd.f4 false true false false) := by
  refine returnsInHanded_of_row (C := Tryd.checked) (s := OpenSpec.ofChange Rows.fnEncodeVLQMatchesDigitModelSpec) own started (by kernel_rfl) Tryd.func4
    (witness_row_atRef (enc := enc) (C := Tryd.checked) false (laidWorld os) #[.slice none 0 0, .int .i64 0] rfl (by kernel_rfl) (by kernel_rfl) (by kernel_rfl) (witness_row os enc)) ?_
  intro W base args ds gs before hval hW _ _ _ hL _ _
  exact contract H enc W base args ds gs before hval hW hL

theorem said : Rows.FnEncodeVLQMatchesDigitModelSaid :=
  OpenClaim.holds_of_cond 4 Tryd.f4 rfl rfl rfl rfl rfl rfl rfl ⟨rfl, rfl, rfl, rfl, rfl⟩ rfl rfl rfl rfl rfl (by kernel_rfl) Tryd.func4 (by kernel_rfl)
    (of_decide_eq_true (by kernel_rfl)) (by unfold Func.isWrapper; first | (rw [if_pos (by decide +kernel)]; kernel_rfl) | (rw [if_neg (by decide +kernel)]; exact ⟨rfl, rfl⟩))
    (fun os started H enc _ F => by rw [OpenClaim.pre_eq_preRow]; exact lifted os started H enc F)

/-- No parameter wants a stand-in; the program's own looks are off: what the card asks. -/
theorem plain7 (f : FuncId) (fn : Func) (hf : Tryd.pinned.checked.prog.funcNamed Rows.fnEncodeVLQMatchesDigitModelRow.func = some f) (hfn : Tryd.pinned.checked.prog.funcs[f]? = some fn) :
    false = Tryd.pinned.checked.prog.looks [] ∧ ∀ (j : Nat) t, fn.params[j]? = some t → Tryd.pinned.checked.prog.wantsStandIn t = false := by
  obtain rfl : f = 4 := Option.some.inj ((show Tryd.prog.funcNamed Rows.fnEncodeVLQMatchesDigitModelRow.func = some 4 by kernel_rfl).symm.trans hf) |>.symm
  obtain rfl : fn = Tryd.f4 := (Option.some.inj (Tryd.func4.symm.trans hfn)).symm
  refine ⟨by kernel_rfl, fun j t ht => ?_⟩
  rw [Tryd.params4] at ht
  have hm := Array.mem_of_getElem? ht
  have : t = 31 ∨ t = 3 := by simpa using hm
  rcases this with rfl | rfl
  · exact (show Tryd.prog.wantsStandIn 31 = false by kernel_rfl)
  · exact (show Tryd.prog.wantsStandIn 3 = false by kernel_rfl)

/-- the statement: the tied card -/
theorem proved : Rows.FnEncodeVLQMatchesDigitModelCardSaid :=
  Claim7.holds_tied_plain_at .later [] _ _ _ _ said (fun _ h => by cases h) (by kernel_rfl) (fun _ h => by cases h) fnEncodeVLQMatchesDigitModel_row_tie rfl ⟨rfl, rfl⟩ (by kernel_rfl) rfl plain7 (by kernel_rfl)
#print axioms proved
end Go.Proofs.YtfennlkojhnhjaaDoor.fnEncodeVLQMatchesDigitModel
