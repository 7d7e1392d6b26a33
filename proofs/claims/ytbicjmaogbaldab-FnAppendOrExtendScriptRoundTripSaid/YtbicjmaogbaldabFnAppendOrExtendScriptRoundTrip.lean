/-
  For any sequence of (source, part) pairs the law FnAppendOrExtendScriptRoundTrip returns true: folding appendOrExtendPartRange over it leaves ranges that expand to exactly that sequence, each non-empty, no two neighbours mergeable, and as many as there are pairs that do not continue their predecessor (outside its bounds it returns true too). No conditions.
-/
import Derived.Test.YtbicjmaogbaldabRows
import Derived.WalkKit
import Derived.ProofKit
import Derived.OpenShut
import Derived.ShutString
import Derived.ChangeOld
import Derived.Below
import Derived.WalkSpells
import Derived.WalkLawsBesides
import Derived.LoopTactic
import Derived.RegionTactic
import Derived.BigRegion
import Derived.BigQuiet
import Derived.ChangeAlike
import Derived.OwnWalk
import Derived.Deep.RegionHeld3
import Derived.Deep.RegionWith
import Derived.Deep.QuietTactic
import Derived.Laws.StructEq
import Derived.Laws.AppendOwn
import Derived.Test.YtbicjmaogbaldabExtWalk
namespace Go.Proofs.Ytbicjmaogbaldab.fnAppendOrExtendScriptRoundTrip
open Go.ChangeShapes Go.WideShapes Go.ChangeAt Go.RowKit
open Go.ChangeMaps (open_string shut_string)
set_option linter.unusedVariables false

theorem own : ownKnob Try.prog.godebug = none := by kernel_rfl
theorem laidOut : laidOutB Try.prog = true := by kernel_rfl

/-- WHAT THE WALK IS TOLD OF A SLICE OF INTEGERS THAT CAME IN: it is nil; or it leads to a row of 'cap' cells, the numbers 'zs' (the first 'len' are its elements, the rest its spare room), each fitting its kind. -/
def IsRow (k : IntKind) (w : World) (a : Option Addr) (len cap : Nat) (zs : List Int) : Prop :=
  (a = none ∧ len = 0 ∧ cap = 0 ∧ zs = []) ∨
  ∃ x, a = some x ∧ len ≤ cap ∧ cap ≤ maxLen ∧ zs.length = cap ∧ (∀ i, i < zs.length → w.cell? (x.add i) = some (.int k (zs.getD i 0))) ∧ ∀ n ∈ zs, (Lit.int k n).wf = true

theorem row_in {w : World} {a : Option Addr} {len cap : Nat} {z : List Int} (h : IsRow .u32 w a len cap z) : ∃ zs : List Int, zs.length = len ∧ In .u32 w a zs ∧ zs.length ≤ maxLen ∧ ∀ i, i < zs.length → 0 ≤ nth zs i ∧ nth zs i ≤ 4294967295 := by
  rcases h with ⟨rfl, rfl, rfl, rfl⟩ | ⟨x, rfl, h1, h2, h3, h4, h5⟩
  · exact ⟨[], rfl, .inl rfl, by simp, fun i h => by simp at h⟩
  · have hl : (z.take len).length = len := by rw [List.length_take]; omega
    refine ⟨z.take len, hl, ?_, by omega, fun i hi => ?_⟩
    · by_cases h0 : len = 0
      · subst h0; exact .inl (by simp)
      · obtain ⟨b, off, spot⟩ := x
        have hc := h4 0 (by omega)
        have hspot : spot = none := by simpa [Addr.add] using World.cell?_spot hc
        subst hspot
        refine .inr ⟨b, off, rfl, World.block_lt_of_cell? w _ hc, fun i hi => ?_⟩
        have := h4 i (by omega)
        have e : (⟨b, off, none⟩ : Addr).add i = ⟨b, off + i, none⟩ := by unfold Addr.add; split <;> simp_all
        rw [e] at this
        rw [this, nth_take z len i (by omega)]; rfl
    · rw [nth_take z len i (by omega)]
      have := h5 _ (nth_mem z i (by omega))
      simp [Lit.wf, IntKind.min, IntKind.max, IntKind.signed, IntKind.bits] at this
      omega
theorem bytes_yes (a0 a1 : Option Addr) (n0 n1 c0 c1 : Nat) (w : World) (h : n0 + n1 ≤ 1048576) :
    Calls Try.prog 21 #[.slice a0 n0 c0, .slice a1 n1 c1] w fun e w' => e = .returned (.bool true) ∧ w' = w := by
  have h0 : n0 ≤ 1048576 := by omega
  have h1 : n1 ≤ 1048576 := by omega
  go_enter Try.func21, Try.ntmps21
  go_wp2
  go_ret
  exact ⟨rfl, rfl⟩
theorem bytes_no (a0 a1 : Option Addr) (n0 n1 c0 c1 : Nat) (w : World) (h : 1048576 < n0 + n1) (m0 : n0 ≤ maxLen) (m1 : n1 ≤ maxLen) :
    Calls Try.prog 21 #[.slice a0 n0 c0, .slice a1 n1 c1] w fun e w' => e = .returned (.bool false) ∧ w' = w := by
  unfold maxLen at m0 m1
  by_cases h0 : n0 ≤ 1048576
  rotate_left
  · go_enter Try.func21, Try.ntmps21
    go_wp2
    go_ret
    exact ⟨rfl, rfl⟩
  by_cases h1 : n1 ≤ 1048576
  all_goals
    go_enter Try.func21, Try.ntmps21
    go_wp2
    go_ret
    exact ⟨rfl, rfl⟩
set_option maxRecDepth 100000 in
theorem bad1 (a0 a1 : Option Addr) (n0 n1 c0 c1 : Nat) (w : World) (h : 1048576 < n0 + n1) (m0 : n0 ≤ maxLen) (m1 : n1 ≤ maxLen) :
    Calls Try.prog 6 #[.slice a0 n0 c0, .slice a1 n1 c1] w fun e w' => e = .returned (.bool true) ∧ Below w.heap.size w w' := by
  go_enter Try.func6, Try.ntmps6
  go_wp2_with fail
  refine (bytes_no _ _ _ _ _ _ _ h m0 m1).mono ?_
  rintro e w1 ⟨rfl, rfl⟩
  go_wp2
  go_ret
  exact ⟨rfl, Below.refl _ _⟩
set_option maxRecDepth 100000 in
theorem bad2 (a0 a1 : Option Addr) (n0 n1 c0 c1 : Nat) (w : World) (h : n0 + n1 ≤ 1048576) (k : 4096 < n0 ∨ (n0 ≤ 4096 ∧ 4096 < n1) ∨ (n0 ≤ 4096 ∧ n1 ≤ 4096 ∧ n0 < n1) ∨ (n0 ≤ 4096 ∧ n1 ≤ 4096 ∧ n1 < n0)) :
    Calls Try.prog 6 #[.slice a0 n0 c0, .slice a1 n1 c1] w fun e w' => e = .returned (.bool true) ∧ Below w.heap.size w w' := by
  rcases k with k | ⟨k, k1⟩ | ⟨k, k1, k2⟩ | ⟨k, k1, k2⟩
  all_goals
    go_enter Try.func6, Try.ntmps6
    go_wp2_with fail
    refine (bytes_yes _ _ _ _ _ _ _ h).mono ?_
    rintro e w1 ⟨rfl, rfl⟩
    go_wp2
    go_ret
    exact ⟨rfl, Below.refl _ _⟩
/-- what is known of the three slices behind k pairs -/
def Seq (S P : List Int) (k : Nat) (R : Rg) (m : Nat) (b0 b1 b2 : Option Addr) (wr : World) : Prop := R = fold S P k ∧ R.S.length = m ∧ In .u32 wr b0 R.S ∧ In .u32 wr b1 R.B ∧ In .u32 wr b2 R.E
def Inv (S P : List Int) (R : Rg) (m : Nat) (ao ap b0 b1 b2 : Option Addr) (wr : World) : Prop := In .u32 wr ao S ∧ In .u32 wr ap P ∧ R.S.length = m ∧ In .u32 wr b0 R.S ∧ In .u32 wr b1 R.B ∧ In .u32 wr b2 R.E
theorem Inv.kept {S P : List Int} {R : Rg} {m : Nat} {ao ap b0 b1 b2 : Option Addr} {w w' : World} (h : Inv S P R m ao ap b0 b1 b2 w) (hb : Below w.heap.size w w') : Inv S P R m ao ap b0 b1 b2 w' :=
  ⟨h.1.kept hb, h.2.1.kept hb, h.2.2.1, h.2.2.2.1.kept hb, h.2.2.2.2.1.kept hb, h.2.2.2.2.2.kept hb⟩
theorem Inv.drewN {S P : List Int} {R : Rg} {m : Nat} {ao ap b0 b1 b2 : Option Addr} {w : World} (h : Inv S P R m ao ap b0 b1 b2 w) (n : Nat) : Inv S P R m ao ap b0 b1 b2 (w.drewN n) := h.kept (below_drewN (Below.refl _ _) n)
theorem fold_le (S P : List Int) : ∀ k, (fold S P k).S.length ≤ k
  | 0 => Nat.le_refl _
  | k + 1 => by
    have := fold_le S P k
    have h2 := step_length (fold S P k) (nth S k) (nth P k)
    show ((fold S P k).step _ _).S.length ≤ k + 1
    omega
set_option maxRecDepth 100000 in
set_option maxHeartbeats 2000000 in
theorem good (a0 a1 : Option Addr) (c0 c1 : Nat) (S P : List Int) (w : World) (H : Hid (In .u32 w a0 S ∧ In .u32 w a1 P)) (HW : Hid (∀ i, i < P.length → 0 ≤ nth P i ∧ nth P i ≤ 4294967295)) (hE : Hid (P.length = S.length))
    (h0 : S.length ≤ 4096) (h1 : P.length ≤ 4096) :
    Calls Try.prog 6 #[.slice a0 S.length c0, .slice a1 P.length c1] w fun e w' => e = .returned (.bool true) ∧ Below w.heap.size w w' := by
  have D0 : decide ((4096 : Int) < (S.length : Int)) = false := by simp; omega
  have D1 : decide ((4096 : Int) < (P.length : Int)) = false := by simp; omega
  have D2 : ((S.length : Int) != (P.length : Int)) = false := by simp [hE.out]
  have D0' : decide (4096 < S.length) = false := by simp; omega
  have D1' : decide (4096 < P.length) = false := by simp; omega
  have D2' : (S.length != P.length) = false := by simp [hE.out]
  go_enter Try.func6, Try.ntmps6
  go_wp2_with fail
  refine (bytes_yes _ _ _ _ _ _ _ (by omega)).mono ?_
  rintro e w1 ⟨rfl, rfl⟩
  go_wp2
  go_loopw [5] (fun i wr => ∃ k : Nat, k ≤ P.length ∧ i = .int .i64 k ∧ wr = w1 ∧ Hid (∀ j, j < k → nth P j < 4294967295)) (fun i _ => P.length - (intOf i).toNat)
  case atStart => exact ⟨0, Nat.zero_le _, rfl, rfl, Lib.hid (fun j hj => by omega)⟩
  case round =>
    obtain ⟨k, hk, rfl, rfl, HM⟩ := hrel
    rcases (show k = P.length ∨ k < P.length by omega) with rfl | hlt
    · obtain ⟨wa, rfl⟩ : ∃ wa : World, wa = wr := ⟨_, rfl⟩
      go_wp2_with fail
      refine (clone_any a0 c0 S _ H.out.1 (by omega)).mono ?_
      rintro e w2 ⟨ao, capo, rfl, q2, b2⟩
      have K2 := Lib.hid (And.intro (Cloned.in' q2) b2)
      have I2 := Lib.hid (H.out.2.kept b2)
      clear q2 b2
      go_wp2_with fail
      refine (clone_any a1 c1 P _ I2.out (by omega)).mono ?_
      rintro e w3 ⟨ap, capp, rfl, q3, b3⟩
      have K3 := Lib.hid (And.intro (K2.out.1.kept b3) (And.intro (Cloned.in' q3) (below_two K2.out.2 b3)))
      have hsz := K3.out.2.2.size
      clear q3 b3 K2 I2
      go_wp2
      go_loopw [6, 7, 8, 9] (fun x y z i wr => ∃ (k m : Nat) (R : Rg) (b0 b1 b2 : Option Addr) (d0 d1 d2 : Nat), k ≤ S.length ∧ i = .int .i64 k ∧ x = .slice b0 m d0 ∧ y = .slice b1 m d1 ∧ z = .slice b2 m d2 ∧ Hid (Seq S P k R m b0 b1 b2 wr ∧ Below w3.heap.size w3 wr)) (fun _ _ _ i _ => S.length - (intOf i).toNat)
      case atStart => exact ⟨0, 0, ⟨[], [], []⟩, none, none, none, 0, 0, 0, Nat.zero_le _, rfl, rfl, rfl, rfl, Lib.hid ⟨⟨rfl, rfl, .inl rfl, .inl rfl, .inl rfl⟩, Below.refl _ _⟩⟩
      case round =>
        obtain ⟨k, m, R, e0, e1, e2, d0, d1, d2, hk, rfl, rfl, rfl, rfl, HS⟩ := hrel
        have hm : m ≤ k := by
          have := fold_le S P k
          rw [← HS.out.1.1, HS.out.1.2.1] at this; exact this
        rcases (show k = S.length ∨ k < S.length by omega) with rfl | hlt
        · have HG := Lib.hid (HS.out.1.1 ▸ good_all S P S.length : Good S P S.length R)
          have hml : m = cnt S P S.length := by rw [← HS.out.1.2.1]; exact HG.out.len
          have HJ : Hid (Inv S P R m ao ap e0 e1 e2 wr ∧ Below w3.heap.size w3 wr) := Lib.hid ⟨⟨K3.out.1.kept HS.out.2, K3.out.2.1.kept HS.out.2, HS.out.1.2⟩, HS.out.2⟩
          have HP := Lib.hid (fun j (hj : j < P.length) => And.intro (HW.out j hj).1 (HM.out j hj))
          have HB3 := Lib.hid K3.out.2.2
          clear HS HM HW K3 H
          rcases Nat.eq_zero_or_pos S.length with hz | hz
          · have hm0 : m ≤ 0 := by rw [hml, hz]; exact Nat.le_refl _
            have hz' : S.length ≤ 0 := by omega
            have z1 : ((m : Int) != 0) = false := by simp; omega
            have z2 : ((0 : Int) == (S.length : Int)) = true := by simp; omega
            clear hml hz
            go_wp2
            refine wp_loop_rounds 1 ?_
            rw [rounds_succ]
            go_wp2
            go_ret
            exact ⟨rfl, below_then HB3.out HJ.out.2 hsz⟩
          · have HML := Lib.hid hml
            have hmp : 0 < m := by rw [← HJ.out.1.2.2.1]; exact (HG.out.last hz).1
            clear hml
            go_wp2
            go_loopw [11, 12] (fun c i w' => ∃ (j : Nat), j < S.length ∧ i = .int .i64 ((j : Int) + 1) ∧ c = .int .i64 (cnt S P (j + 1)) ∧ Hid (Inv S P R m ao ap e0 e1 e2 w' ∧ Below w3.heap.size w3 w')) (fun _ i _ => S.length - (intOf i).toNat)
            case atStart => exact ⟨0, hz, rfl, rfl, HJ⟩
            case round =>
              obtain ⟨j, hj, rfl, rfl, HJ2⟩ := hrel
              clear HJ
              rcases (show j + 1 = S.length ∨ j + 1 < S.length by omega) with hje | hlt
              · have hce : ((cnt S P (j + 1) : Nat) : Int) = m := by rw [hje, ← HML.out]
                rw [hce]
                have hje' : S.length ≤ j + 1 := by omega
                have hjd : decide ((j : Int) + 1 < (S.length : Int)) = false := by simp; omega
                clear hce hje
                go_wp2
                go_loopw [13, 14] (fun kk r w' => ∃ (t q : Nat), q ≤ m ∧ r = .int .i64 q ∧ kk = .int .i64 t ∧ t ≤ S.length ∧ Hid ((t : Int) = off R q) ∧ Hid (Inv S P R m ao ap e0 e1 e2 w' ∧ Below w3.heap.size w3 w')) (fun _ r _ => m - (intOf r).toNat)
                case atStart => exact ⟨0, 0, Nat.zero_le _, rfl, rfl, Nat.zero_le _, Lib.hid rfl, HJ2⟩
                case round =>
                  obtain ⟨t, q, hq, rfl, rfl, htS, HO, HJ3⟩ := hrel
                  clear HJ2
                  rcases (show q = m ∨ q < m by omega) with rfl | hlt
                  · have hend : ((t : Int) == (S.length : Int)) = true := by
                      have := HG.out.all
                      rw [HJ3.out.1.2.2.1] at this
                      simp [HO.out, this]
                    go_wp2
                    go_ret
                    exact ⟨rfl, below_then HB3.out HJ3.out.2 hsz⟩
                  · have lB : R.B.length = m := HG.out.even.1.trans HJ3.out.1.2.2.1
                    have lE : R.E.length = m := HG.out.even.2.trans HJ3.out.1.2.2.1
                    have lS : R.S.length = m := HJ3.out.1.2.2.1
                    obtain ⟨pB, oB, xB, kB, cB⟩ := HJ3.out.1.2.2.2.2.1.at (i := q) (by omega)
                    obtain ⟨pE, oE, xE, kE, cE⟩ := HJ3.out.1.2.2.2.2.2.at (i := q) (by omega)
                    obtain ⟨pS, oS, xS, kS, cS⟩ := HJ3.out.1.2.2.2.1.at (i := q) (by omega)
                    subst xB xE xS
                    have ltBE := HG.out.lt q (by omega)
                    have i0 : (0 : Int) ≤ (q : Int) := by omega
                    have i1 : (q : Int) < (m : Int) := by omega
                    have g1 : decide (nth R.E q ≤ nth R.B q) = false := by simp; omega
                    have HL := Lib.hid (And.intro lB (And.intro lE lS))
                    have HC := Lib.hid (And.intro cB (And.intro cE cS))
                    clear lB lE lS
                    go_wp2
                    go_quiet (fail)
                    go_wp2
                    have hcase : (decide ((0 : Int) < (q : Int)) = false) ∨ (∃ y, Hid (q = y + 1) ∧ (nth R.S q == nth R.S y) = false) ∨ (∃ y, Hid (q = y + 1) ∧ (nth R.S q == nth R.S y) = true ∧ (nth R.B q == nth R.E y) = false) := by
                      by_cases h1 : q = 0
                      · exact .inl (by simp; omega)
                      · by_cases h2 : nth R.S q = nth R.S (q - 1)
                        · exact .inr (.inr ⟨q - 1, Lib.hid (by omega), by simpa using h2, by simpa using fun h3 => HG.out.apart q (by omega) (by rw [HL.out.2.2]; exact hlt) ⟨h2, h3⟩⟩)
                        · exact .inr (.inl ⟨q - 1, Lib.hid (by omega), by simpa using h2⟩)
                    rcases hcase with z0 | ⟨y, hy, z0⟩ | ⟨y, hy, z0, z3⟩
                    · have z0n : decide (0 < q) = false := by simp at z0 ⊢; omega
                      have z0e : q ≤ 0 := by simp at z0; omega
                      go_quiet (fail)
                      go_wp2
                      go_loopw [13, 15] (fun kk x w' => ∃ (u : Nat) (v : Int), nth R.B q ≤ v ∧ v ≤ nth R.E q ∧ x = .int .u32 v ∧ kk = .int .i64 u ∧ u ≤ S.length ∧ Hid ((u : Int) = off R q + (v - nth R.B q)) ∧ Hid (Inv S P R m ao ap (some ⟨pS, oS, none⟩) (some ⟨pB, oB, none⟩) (some ⟨pE, oE, none⟩) w' ∧ Below w3.heap.size w3 w')) (fun _ x _ => (nth R.E q - intOf x).toNat)
                      case atStart => exact ⟨t, nth R.B q, Int.le_refl _, by omega, rfl, rfl, htS, Lib.hid (by rw [HO.out]; omega), Lib.hid ⟨HJ3.out.1.drewN _, below_drewN HJ3.out.2 _⟩⟩
                      case round =>
                        obtain ⟨u, v, v1, v2, rfl, rfl, huS, HU, HJ4⟩ := hrel
                        obtain ⟨pE2, oE2, xE2, kE2, cE2⟩ := HJ4.out.1.2.2.2.2.2.at (i := q) (by rw [HL.out.2.1]; exact hlt)
                        obtain ⟨pS2, oS2, xS2, kS2, cS2⟩ := HJ4.out.1.2.2.2.1.at (i := q) (by rw [HL.out.2.2]; exact hlt)
                        cases xE2
                        cases xS2
                        rcases (show v = nth R.E q ∨ v < nth R.E q by omega) with rfl | hlv
                        · go_wp2
                          go_roundw
                          case rel => exact ⟨u, q + 1, by omega, by go_num, rfl, huS, Lib.hid (by rw [HU.out]; rfl), HJ4⟩
                          case measure => simp [intOf]; omega
                        · have ht := HG.out.tile q (by rw [HL.out.2.2]; exact hlt) v v1 hlv
                          rw [← HU.out] at ht
                          obtain ⟨_, ht2, ht3, ht4⟩ := ht
                          rw [Int.toNat_natCast] at ht3 ht4
                          have hb4 := HP.out u (by rw [hE.out]; omega)
                          rw [ht4] at hb4
                          obtain ⟨hb5, hb6⟩ := hb4
                          obtain ⟨pA, oA, xA, kA, cA⟩ := HJ4.out.1.1.at (i := u) (by omega)
                          obtain ⟨pP, oP, xP, kP, cP⟩ := HJ4.out.1.2.1.at (i := u) (by rw [hE.out]; omega)
                          rw [ht3] at cA
                          rw [ht4] at cP
                          have hE2 : (u : Int) < (P.length : Int) := by rw [hE.out]; exact ht2
                          have u0 : (0 : Int) ≤ (u : Int) := by omega
                          subst xA xP
                          clear ht3 ht4
                          go_wp2
                          go_quiet (fail)
                          go_wp2
                          go_roundw
                          case rel => exact ⟨u + 1, v + 1, by omega, by omega, rfl, by go_num, by omega, Lib.hid (by have := HU.out; omega), Lib.hid ⟨HJ4.out.1.drewN _, below_drewN HJ4.out.2 _⟩⟩
                          case measure => simp [intOf]; omega
                    · obtain ⟨pS', oS', xS', kS', cS'⟩ := HJ3.out.1.2.2.2.1.at (i := y) (by have := hy.out; rw [HL.out.2.2]; omega)
                      cases xS'
                      have z1 : decide ((0 : Int) < (q : Int)) = true := by have := hy.out; simp; omega
                      have z1n : decide (0 < q) = true := by have := hy.out; simp; omega
                      have z2 : IntKind.i64.wrap ((q : Int) - 1) = (y : Int) := by rw [IntWalk.i64_in _ (by omega)]; have := hy.out; omega
                      have y0 : (0 : Int) ≤ (y : Int) := by omega
                      have y1 : (y : Int) < (m : Int) := by have := hy.out; omega
                      go_quiet (fail)
                      clear z2 y0 y1 cS'
                      go_wp2
                      go_loopw [13, 15] (fun kk x w' => ∃ (u : Nat) (v : Int), nth R.B q ≤ v ∧ v ≤ nth R.E q ∧ x = .int .u32 v ∧ kk = .int .i64 u ∧ u ≤ S.length ∧ Hid ((u : Int) = off R q + (v - nth R.B q)) ∧ Hid (Inv S P R m ao ap (some ⟨pS, oS, none⟩) (some ⟨pB, oB, none⟩) (some ⟨pE, oE, none⟩) w' ∧ Below w3.heap.size w3 w')) (fun _ x _ => (nth R.E q - intOf x).toNat)
                      case atStart => exact ⟨t, nth R.B q, Int.le_refl _, by omega, rfl, rfl, htS, Lib.hid (by rw [HO.out]; omega), Lib.hid ⟨HJ3.out.1.drewN _, below_drewN HJ3.out.2 _⟩⟩
                      case round =>
                        obtain ⟨u, v, v1, v2, rfl, rfl, huS, HU, HJ4⟩ := hrel
                        obtain ⟨pE2, oE2, xE2, kE2, cE2⟩ := HJ4.out.1.2.2.2.2.2.at (i := q) (by rw [HL.out.2.1]; exact hlt)
                        obtain ⟨pS2, oS2, xS2, kS2, cS2⟩ := HJ4.out.1.2.2.2.1.at (i := q) (by rw [HL.out.2.2]; exact hlt)
                        cases xE2
                        cases xS2
                        rcases (show v = nth R.E q ∨ v < nth R.E q by omega) with rfl | hlv
                        · go_wp2
                          go_roundw
                          case rel => exact ⟨u, q + 1, by omega, by go_num, rfl, huS, Lib.hid (by rw [HU.out]; rfl), HJ4⟩
                          case measure => simp [intOf]; omega
                        · have ht := HG.out.tile q (by rw [HL.out.2.2]; exact hlt) v v1 hlv
                          rw [← HU.out] at ht
                          obtain ⟨_, ht2, ht3, ht4⟩ := ht
                          rw [Int.toNat_natCast] at ht3 ht4
                          have hb4 := HP.out u (by rw [hE.out]; omega)
                          rw [ht4] at hb4
                          obtain ⟨hb5, hb6⟩ := hb4
                          obtain ⟨pA, oA, xA, kA, cA⟩ := HJ4.out.1.1.at (i := u) (by omega)
                          obtain ⟨pP, oP, xP, kP, cP⟩ := HJ4.out.1.2.1.at (i := u) (by rw [hE.out]; omega)
                          rw [ht3] at cA
                          rw [ht4] at cP
                          have hE2 : (u : Int) < (P.length : Int) := by rw [hE.out]; exact ht2
                          have u0 : (0 : Int) ≤ (u : Int) := by omega
                          subst xA xP
                          clear ht3 ht4
                          go_wp2
                          go_quiet (fail)
                          go_wp2
                          go_roundw
                          case rel => exact ⟨u + 1, v + 1, by omega, by omega, rfl, by go_num, by omega, Lib.hid (by have := HU.out; omega), Lib.hid ⟨HJ4.out.1.drewN _, below_drewN HJ4.out.2 _⟩⟩
                          case measure => simp [intOf]; omega
                    · obtain ⟨pS', oS', xS', kS', cS'⟩ := HJ3.out.1.2.2.2.1.at (i := y) (by have := hy.out; rw [HL.out.2.2]; omega)
                      obtain ⟨pE', oE', xE', kE', cE'⟩ := HJ3.out.1.2.2.2.2.2.at (i := y) (by have := hy.out; rw [HL.out.2.1]; omega)
                      cases xS'
                      cases xE'
                      have z1 : decide ((0 : Int) < (q : Int)) = true := by have := hy.out; simp; omega
                      have z1n : decide (0 < q) = true := by have := hy.out; simp; omega
                      have z2 : IntKind.i64.wrap ((q : Int) - 1) = (y : Int) := by rw [IntWalk.i64_in _ (by omega)]; have := hy.out; omega
                      have y0 : (0 : Int) ≤ (y : Int) := by omega
                      have y1 : (y : Int) < (m : Int) := by have := hy.out; omega
                      go_quiet (fail)
                      clear z2 y0 y1 cS' cE'
                      go_wp2
                      go_loopw [13, 15] (fun kk x w' => ∃ (u : Nat) (v : Int), nth R.B q ≤ v ∧ v ≤ nth R.E q ∧ x = .int .u32 v ∧ kk = .int .i64 u ∧ u ≤ S.length ∧ Hid ((u : Int) = off R q + (v - nth R.B q)) ∧ Hid (Inv S P R m ao ap (some ⟨pS, oS, none⟩) (some ⟨pB, oB, none⟩) (some ⟨pE, oE, none⟩) w' ∧ Below w3.heap.size w3 w')) (fun _ x _ => (nth R.E q - intOf x).toNat)
                      case atStart => exact ⟨t, nth R.B q, Int.le_refl _, by omega, rfl, rfl, htS, Lib.hid (by rw [HO.out]; omega), Lib.hid ⟨HJ3.out.1.drewN _, below_drewN HJ3.out.2 _⟩⟩
                      case round =>
                        obtain ⟨u, v, v1, v2, rfl, rfl, huS, HU, HJ4⟩ := hrel
                        obtain ⟨pE2, oE2, xE2, kE2, cE2⟩ := HJ4.out.1.2.2.2.2.2.at (i := q) (by rw [HL.out.2.1]; exact hlt)
                        obtain ⟨pS2, oS2, xS2, kS2, cS2⟩ := HJ4.out.1.2.2.2.1.at (i := q) (by rw [HL.out.2.2]; exact hlt)
                        cases xE2
                        cases xS2
                        rcases (show v = nth R.E q ∨ v < nth R.E q by omega) with rfl | hlv
                        · go_wp2
                          go_roundw
                          case rel => exact ⟨u, q + 1, by omega, by go_num, rfl, huS, Lib.hid (by rw [HU.out]; rfl), HJ4⟩
                          case measure => simp [intOf]; omega
                        · have ht := HG.out.tile q (by rw [HL.out.2.2]; exact hlt) v v1 hlv
                          rw [← HU.out] at ht
                          obtain ⟨_, ht2, ht3, ht4⟩ := ht
                          rw [Int.toNat_natCast] at ht3 ht4
                          have hb4 := HP.out u (by rw [hE.out]; omega)
                          rw [ht4] at hb4
                          obtain ⟨hb5, hb6⟩ := hb4
                          obtain ⟨pA, oA, xA, kA, cA⟩ := HJ4.out.1.1.at (i := u) (by omega)
                          obtain ⟨pP, oP, xP, kP, cP⟩ := HJ4.out.1.2.1.at (i := u) (by rw [hE.out]; omega)
                          rw [ht3] at cA
                          rw [ht4] at cP
                          have hE2 : (u : Int) < (P.length : Int) := by rw [hE.out]; exact ht2
                          have u0 : (0 : Int) ≤ (u : Int) := by omega
                          subst xA xP
                          clear ht3 ht4
                          go_wp2
                          go_quiet (fail)
                          go_wp2
                          go_roundw
                          case rel => exact ⟨u + 1, v + 1, by omega, by omega, rfl, by go_num, by omega, Lib.hid (by have := HU.out; omega), Lib.hid ⟨HJ4.out.1.drewN _, below_drewN HJ4.out.2 _⟩⟩
                          case measure => simp [intOf]; omega
              · obtain ⟨pA, oA, xA, kA, cA⟩ := HJ2.out.1.1.at (i := j + 1) hlt
                obtain ⟨pA', oA', xA', kA', cA'⟩ := HJ2.out.1.1.at (i := j) (by omega)
                obtain ⟨pP, oP, xP, kP, cP⟩ := HJ2.out.1.2.1.at (i := j + 1) (by rw [hE.out]; exact hlt)
                obtain ⟨pP', oP', xP', kP', cP'⟩ := HJ2.out.1.2.1.at (i := j) (by rw [hE.out]; omega)
                subst xA xP
                cases xA'
                cases xP'
                have hb := HP.out j (by rw [hE.out]; omega)
                have w1' : IntKind.i64.wrap ((j : Int) + 1 - 1) = (j : Int) := by rw [IntWalk.i64_in _ (by omega)]; omega
                have w2' : IntKind.u32.wrap (nth P j + 1) = nth P j + 1 := by rw [IntKind.wrap_u32']; omega
                have y0 : (0 : Int) ≤ (j : Int) := by omega
                have y1 : (j : Int) < (S.length : Int) := by omega
                have y2 : (0 : Int) ≤ (j : Int) + 1 := by omega
                have y3 : (j : Int) + 1 < (S.length : Int) := by omega
                have y4 : (j : Int) < (P.length : Int) := by rw [hE.out]; exact y1
                have y5 : (j : Int) + 1 < (P.length : Int) := by rw [hE.out]; exact y3
                have y6 : ((j : Int) + 1).toNat = j + 1 := by omega
                have hlc : cnt S P (j + 1) ≤ j + 1 := by
                  have h1 := (good_all S P (j + 1)).len
                  have h2 := fold_le S P (j + 1)
                  omega
                have HC : Hid (cnt S P (j + 1 + 1) = cnt S P (j + 1) + if cont S P (j + 1) then 0 else 1) := Lib.hid rfl
                have hcase : Hid (¬ cont S P (j + 1)) ∧ (nth S (j + 1) == nth S j) = false ∨ Hid (¬ cont S P (j + 1)) ∧ (nth S (j + 1) == nth S j) = true ∧ (nth P (j + 1) == nth P j + 1) = false ∨ Hid (cont S P (j + 1)) ∧ (nth S (j + 1) == nth S j) = true ∧ (nth P (j + 1) == nth P j + 1) = true := by
                  by_cases h1 : nth S (j + 1) = nth S j
                  · by_cases h2 : nth P (j + 1) = nth P j + 1
                    · exact .inr (.inr ⟨Lib.hid ⟨h1, h2⟩, by simpa using h1, by simpa using h2⟩)
                    · exact .inr (.inl ⟨Lib.hid (fun c => h2 c.2), by simpa using h1, by simpa using h2⟩)
                  · exact .inl ⟨Lib.hid (fun c => h1 c.1), by simpa using h1⟩
                rcases hcase with ⟨hc, s1⟩ | ⟨hc, s1, s2⟩ | ⟨hc, s1, s2⟩
                all_goals
                  go_wp2
                  go_quiet (fail)
                  clear w1' w2' y6
                  go_wp2
                  go_roundw
                  case rel => exact ⟨j + 1, by omega, by go_num, by (rw [HC.out]; first | (rw [if_pos hc.out]; rfl) | (rw [if_neg hc.out]; go_num)), Lib.hid ⟨HJ2.out.1.drewN _, below_drewN HJ2.out.2 _⟩⟩
                  case measure => simp [intOf]; omega
        · obtain ⟨p0, o0, hx0, hl0, hc0⟩ := K3.out.1.at hlt
          obtain ⟨p1, o1, hx1, hl1, hc1⟩ := K3.out.2.1.at (i := k) (by rw [hE.out]; exact hlt)
          subst hx0 hx1
          have q0 := (HS.out.2.cell (p := ⟨p0, o0 + k, none⟩) hl0).trans hc0
          have q1 := (HS.out.2.cell (p := ⟨p1, o1 + k, none⟩) hl1).trans hc1
          have i0 : (0 : Int) ≤ (k : Int) := by omega
          have i1 : (k : Int) < (S.length : Int) := by omega
          have i2 : (k : Int) < (P.length : Int) := by rw [hE.out]; omega
          clear hc0 hc1
          go_wp2_with fail
          go_region_with ((go_at_call 23; refine (zz_any e0 e1 e2 d0 d1 d2 m R _ _ _ HS.out.1.2.1 (HS.out.1.1 ▸ (good_all S P k).even) HS.out.1.2.2.1.drew HS.out.1.2.2.2.1.drew HS.out.1.2.2.2.2.drew (by omega) (HW.out k (by omega)).1 (HM.out k (by omega))).mono ?_; rintro e w4 ⟨g1, g2, g3, rfl, j1, j2, j3, b4⟩))
          all_goals
            have HZ : Hid (Seq S P (k + 1) (R.step (nth S k) (nth P k)) (R.step (nth S k) (nth P k)).S.length (some ⟨g1, 0, none⟩) (some ⟨g2, 0, none⟩) (some ⟨g3, 0, none⟩) w4 ∧ Below w3.heap.size w3 w4) :=
              Lib.hid ⟨⟨by rw [HS.out.1.1]; rfl, rfl, j1, j2, j3⟩, below_then HS.out.2.drew b4 HS.out.2.size⟩
            generalize (R.step (nth S k) (nth P k)).S.length = m' at HZ ⊢
            clear j1 j2 j3 b4 q0 q1
            go_wp2
            go_roundw
            case rel => exact ⟨k + 1, m', _, _, _, _, _, _, _, by omega, by go_num, rfl, rfl, rfl, HZ⟩
            case measure => simp [intOf]; omega
    · obtain ⟨b, off, hx, hblt, hc⟩ := H.out.2.at hlt
      subst hx
      by_cases hmx : nth P k = 4294967295
      · rw [hmx] at hc
        go_wp2
        go_ret
        exact ⟨rfl, Below.refl _ _⟩
      · have hne : (nth P k == 4294967295) = false := by simpa using hmx
        have hb := HW.out k hlt
        have HM2 := Lib.hid (show ∀ j, j < k + 1 → nth P j < 4294967295 from fun j hj => by
          rcases (show j = k ∨ j < k by omega) with rfl | h
          · omega
          · exact HM.out j h)
        clear hmx HM
        go_wp2
        go_roundw
        case rel => exact ⟨k + 1, by omega, by go_num, trivial, HM2⟩
        case measure => simp [intOf]; omega

theorem walk (a0 : Option Addr) (len0 cap0 : Nat) (z0 : List Int) (a1 : Option Addr) (len1 cap1 : Nat) (z1 : List Int) (w : World) (w0 : IsRow .u32 w a0 len0 cap0 z0) (w1 : IsRow .u32 w a1 len1 cap1 z1) :
    Calls Try.prog 6 #[.slice a0 len0 cap0, .slice a1 len1 cap1] w fun e w' => e = .returned (.bool true) ∧ Below w.heap.size w w' := by
  obtain ⟨S, hz0, hI0, m0, hw0⟩ := row_in w0
  obtain ⟨P, hz1, hI1, m1, hw1⟩ := row_in w1
  subst hz0 hz1
  by_cases hs : S.length + P.length ≤ 1048576
  rotate_left
  · exact bad1 _ _ _ _ _ _ _ (by omega) m0 m1
  by_cases hg : S.length ≤ 4096 ∧ P.length ≤ 4096 ∧ P.length = S.length
  · exact good _ _ _ _ S P w (Lib.hid ⟨hI0, hI1⟩) (Lib.hid hw1) (Lib.hid hg.2.2) hg.1 hg.2.1
  · exact bad2 _ _ _ _ _ _ _ hs (by omega)

set_option maxRecDepth 100000 in
theorem lifted (os : Os) (started : os.Started) (H : Type) (enc : TypeId × Value → H) :
    ReturnsInHanded {} Try.checked os 6 .any (Rows.fnAppendOrExtendScriptRoundTripSpec.pre6 enc Try.prog Try.f6 Rows.fnAppendOrExtendScriptRoundTripRow.domain false) (Rows.fnAppendOrExtendScriptRoundTripSpec.post enc Try.prog Try.f6 false true false false) := by
  refine returnsInHanded_of_change (C := Try.checked) own started (by kernel_rfl) Try.func6
    (ChangeSpec.witness6 (enc := enc) (C := Try.checked) false ⟨#[], #[.slice none 0 0, .slice none 0 0], []⟩ 8 (by kernel_rfl) (by kernel_rfl) (by kernel_rfl) (by kernel_rfl)) ?_
  intro W base args ds gs before hval0 hW hcnd _
  have hval : ∀ (j : Nat) t v, Try.f6.params[j]? = some t → args[j]? = some v → Value.okWide Try.prog W .any base t v := hval0
  have hW' := hW
  obtain ⟨p, q, hA0, hV, rfl, hfz, hnd⟩ := hW
  have hA : DataW.TrodAll enc Try.prog W 0 (fun _ => true) true Try.f6.params.toList args.toList ds p := hA0
  rw [Try.params6] at hA hval
  obtain ⟨v0, vs0, d0, ds0, p0, q0, hargs, rfl, rfl, h0, r0⟩ := trodAll_cons hA
  obtain ⟨v1, vs1, d1, ds1, p1, q1, rfl, rfl, rfl, h1, r1⟩ := trodAll_cons r0
  obtain ⟨rfl, rfl, rfl⟩ := trodAll_nil r1
  obtain rfl : args = #[v0, v1] := by cases args; simp_all
  obtain ⟨rfl, rfl⟩ := trodVars_none hV
  obtain ⟨a0, len0, cap0, rfl⟩ := okWide_slice Try.underlying32 (hval 0 32 v0 rfl rfl)
  have k0 := h0
  have lt0 : ∀ x ∈ p0, x.block < W.heap.size := by obtain ⟨m, hm⟩ := k0; exact DataW.trod_lt m _ _ _ hm
  obtain ⟨z0, w0⟩ : ∃ zs, IsRow .u32 W a0 len0 cap0 zs := by
    obtain ⟨fuel, hf⟩ := h0
    rcases open_ints Try.underlying32 Try.underlying22 (by kernel_rfl) hf with ⟨hcs, _⟩ | ⟨x, l, c, zs, hcs, _, hl, hm, hz, _, hcell, hwz⟩
    · simp [Value.cells] at hcs
      obtain ⟨rfl, rfl, rfl⟩ := hcs
      exact ⟨[], .inl ⟨rfl, rfl, rfl, rfl⟩⟩
    · simp [Value.cells] at hcs
      obtain ⟨rfl, rfl, rfl⟩ := hcs
      exact ⟨zs, .inr ⟨_, rfl, hl, hm, by simpa using hz, hcell, hwz⟩⟩
  obtain ⟨a1, len1, cap1, rfl⟩ := okWide_slice Try.underlying32 (hval 1 32 v1 rfl rfl)
  have k1 := h1
  have lt1 : ∀ x ∈ p1, x.block < W.heap.size := by obtain ⟨m, hm⟩ := k1; exact DataW.trod_lt m _ _ _ hm
  obtain ⟨z1, w1⟩ : ∃ zs, IsRow .u32 W a1 len1 cap1 zs := by
    obtain ⟨fuel, hf⟩ := h1
    rcases open_ints Try.underlying32 Try.underlying22 (by kernel_rfl) hf with ⟨hcs, _⟩ | ⟨x, l, c, zs, hcs, _, hl, hm, hz, _, hcell, hwz⟩
    · simp [Value.cells] at hcs
      obtain ⟨rfl, rfl, rfl⟩ := hcs
      exact ⟨[], .inl ⟨rfl, rfl, rfl, rfl⟩⟩
    · simp [Value.cells] at hcs
      obtain ⟨rfl, rfl, rfl⟩ := hcs
      exact ⟨zs, .inr ⟨_, rfl, hl, hm, by simpa using hz, hcell, hwz⟩⟩
  clear hA0 hval0
  refine (walk a0 len0 cap0 z0 a1 len1 cap1 z1 W w0 w1).mono fun e W' ⟨he, bel⟩ => ?_
  subst he
  exact ⟨_, rfl, _, _, _, [], _, [], hW', trodAll_mk1 (shut_bool Try.underlying4 _), (trodAll_cons_mk (Below.trod laidOut (by kernel_rfl) (of_decide_eq_true (by kernel_rfl)) k0 bel lt0) (trodAll_cons_mk (Below.trod laidOut (by kernel_rfl) (of_decide_eq_true (by kernel_rfl)) k1 bel lt1) trodAll_mk0)), rfl, bel.frame _, fun h => by cases h⟩

theorem over : Rows.fnAppendOrExtendScriptRoundTripRow.holds Try.pinned (OpenSpec.ofChange Rows.fnAppendOrExtendScriptRoundTripSpec) :=
  OpenClaim.holds_of_wide 6 Try.f6 rfl rfl rfl rfl rfl rfl rfl ⟨rfl, rfl, rfl, rfl, rfl⟩ rfl rfl rfl rfl rfl (by kernel_rfl) Try.func6 (by kernel_rfl)
    (of_decide_eq_true (by kernel_rfl)) (by unfold Func.isWrapper; first | (rw [if_pos (by decide +kernel)]; kernel_rfl) | (rw [if_neg (by decide +kernel)]; exact ⟨rfl, rfl⟩))
    (fun os started H enc _ => lifted os started H enc)

/-- THE STATEMENT -/
theorem proved : Rows.FnAppendOrExtendScriptRoundTripSaid := over
#print axioms proved
end Go.Proofs.Ytbicjmaogbaldab.fnAppendOrExtendScriptRoundTrip
