/-
  For any three entries the law FnStableSymbolCountLessIsStrictTotalOrder returns true: Less is a strict total order on the key (Count, StableSourceIndex, InnerIndex), irreflexive and transitive. No conditions.
-/
import Derived.Test.YtbicjmaogbaldabRows
import Derived.Test.YtbicjmaogbaldabInts
import Derived.Test.YtbicjmaogbaldabLess
import Derived.WalkKit
import Derived.ProofKit
import Derived.OpenShut
import Derived.ChangeOld
import Derived.Below
import Derived.Laws.IdiomArrays
import Derived.WalkSpells
import Derived.WalkLawsBesides
import Derived.LoopTactic
import Derived.RegionTactic
import Derived.BigRegion
import Derived.ChangeAlike
import Derived.Deep.QuietTactic
import Derived.BigQuiet
import Derived.Deep.RegionWith
import Derived.Deep.RegionHeld3
namespace Go.Proofs.Ytbicjmaogbaldab.fnStableSymbolCountLessIsStrictTotalOrder
open Go.ChangeShapes Go.WideShapes Go.ChangeAt Go.RowKit
set_option linter.unusedVariables false
theorem below_dN (w : World) (n : Nat) : Below w.heap.size w (w.drewN n) := ⟨rfl, rfl, rfl, Nat.le_refl _, fun _ _ => rfl⟩
theorem info29 : (Try.prog.info? 29).map (fun i => (i.zero, i.size, i.bytes)) = some (some (.agg (ints .u32 (List.replicate 4 0))), 4, 16) := by kernel_rfl

/-- all that the loops read -/
def Mem (w : World) (b g : Nat) (C S R N fl : List Int) : Prop := Blk w b 23 (ints .u32 C) ∧ Blk w (b + 1) 23 (ints .u32 S) ∧ Blk w (b + 1 + 1) 23 (ints .u32 R) ∧ Blk w (b + 1 + 1 + 1) 23 (ints .u32 N) ∧ Blk w g 29 (ints .u32 fl)
theorem Mem.kept {w w' : World} {b g : Nat} {C S R N fl : List Int} (h : Mem w b g C S R N fl) (hb : Below w.heap.size w w') : Mem w' b g C S R N fl :=
  ⟨h.1.kept hb, h.2.1.kept hb, h.2.2.1.kept hb, h.2.2.2.1.kept hb, h.2.2.2.2.kept hb⟩

set_option maxHeartbeats 4000000 in
theorem main (C S R N : List Int) (hC : C.length = 3) (hS : S.length = 3) (hR : R.length = 3) (hN : N.length = 3) (w : World) :
    Calls Try.prog 3 #[.agg (ints .u32 C), .agg (ints .u32 S), .agg (ints .u32 R), .agg (ints .u32 N)] w fun e w' => e = .returned (.bool true) ∧ Below w.heap.size w w' := by
  have HL := Lib.hid (And.intro hC (And.intro hS (And.intro hR hN)))
  clear hC hS hR hN
  go_enter Try.func3, Try.ntmps3
  go_wp2_with (at_make; refine wpList_make_flat _ rfl _ _ 25 rfl 29 .u32 4 16 (by decide) Try.underlying25 info29 3 rfl rfl (by omega) (by unfold maxLen; omega) ?_; intro w1 hb hgr)
  have M1 : Mem w1 w.heap.size (w.heap.size + 1 + 1 + 1 + 1) C S R N (List.replicate 12 0) := by
    have h0 : Blk ((((w.alloc (.cells (ints .u32 C) 23)).alloc (.cells (ints .u32 S) 23)).alloc (.cells (ints .u32 R) 23)).alloc (.cells (ints .u32 N) 23)) w.heap.size 23 (ints .u32 C) := (((Blk.new w 23 _).alloc _).alloc _).alloc _
    have h1 : Blk ((((w.alloc (.cells (ints .u32 C) 23)).alloc (.cells (ints .u32 S) 23)).alloc (.cells (ints .u32 R) 23)).alloc (.cells (ints .u32 N) 23)) (w.heap.size + 1) 23 (ints .u32 S) := by
      have := (((Blk.new (w.alloc (.cells (ints .u32 C) 23)) 23 (ints .u32 S)).alloc (.cells (ints .u32 R) 23)).alloc (.cells (ints .u32 N) 23)); simpa using this
    have h2 : Blk ((((w.alloc (.cells (ints .u32 C) 23)).alloc (.cells (ints .u32 S) 23)).alloc (.cells (ints .u32 R) 23)).alloc (.cells (ints .u32 N) 23)) (w.heap.size + 1 + 1) 23 (ints .u32 R) := by
      have := ((Blk.new ((w.alloc (.cells (ints .u32 C) 23)).alloc (.cells (ints .u32 S) 23)) 23 (ints .u32 R)).alloc (.cells (ints .u32 N) 23)); simpa using this
    have h3 : Blk ((((w.alloc (.cells (ints .u32 C) 23)).alloc (.cells (ints .u32 S) 23)).alloc (.cells (ints .u32 R) 23)).alloc (.cells (ints .u32 N) 23)) (w.heap.size + 1 + 1 + 1) 23 (ints .u32 N) := by
      have := (Blk.new (((w.alloc (.cells (ints .u32 C) 23)).alloc (.cells (ints .u32 S) 23)).alloc (.cells (ints .u32 R) 23)) 23 (ints .u32 N)); simpa using this
    have hb' : Blk w1 (w.heap.size + 1 + 1 + 1 + 1) 29 (ints .u32 (List.replicate 12 0)) := by simpa using hb
    exact ⟨h0.gb hgr (by simp), h1.gb hgr (by simp), h2.gb hgr (by simp), h3.gb hgr (by simp), hb'⟩
  have N1 : Below w.heap.size w w1 := (((((Below.refl _ w).alloc (Nat.le_refl _) _).alloc (by simp) _).alloc (by simp; omega) _).alloc (by simp; omega) _).grown hgr (by simp; omega) (fun k h => by cases h)
  have Q := Lib.hid (And.intro M1 N1)
  clear M1 N1 hb hgr
  go_loopw [10] (fun x wr => ∃ (k : Nat) (fl : List Int), k ≤ 3 ∧ x = .int .i64 k ∧ Mem wr w.heap.size (w.heap.size + 1 + 1 + 1 + 1) C S R N fl ∧ Quad C S R N fl k ∧ Below w.heap.size w wr) (fun x _ => 3 - (intOf x).toNat)
  case atStart => exact ⟨0, _, by omega, rfl, Q.out.1, ⟨by simp, fun m hm => by omega⟩, Q.out.2⟩
  case round =>
    obtain ⟨k, fl, hk, rfl, hM, hQ, hbel⟩ := hrel
    rcases (show k = 3 ∨ k < 3 by omega) with rfl | hlt
    · obtain ⟨wf, rfl⟩ : ∃ wf : World, wf = wr := ⟨_, rfl⟩
      have K := Lib.hid (And.intro hM (And.intro hQ hbel))
      clear hM hQ hbel Q
      rw [show ((3 : Nat) : Int) = 3 from rfl]
      go_wp2
      go_loopw [11] (fun x wr => ∃ i : Nat, i ≤ 3 ∧ x = .int .i64 i ∧ Below wf.heap.size wf wr) (fun x _ => 3 - (intOf x).toNat)
      case atStart => exact ⟨0, by omega, rfl, Below.refl _ _⟩
      case round =>
        obtain ⟨i, hi', rfl, hb1⟩ := hrel
        rcases (show i = 3 ∨ i < 3 by omega) with rfl | hi
        · obtain ⟨wg, rfl⟩ : ∃ wg : World, wg = wr := ⟨_, rfl⟩
          have KB := Lib.hid hb1
          clear hb1
          rw [show ((3 : Nat) : Int) = 3 from rfl]
          go_wp2
          go_loopw [15] (fun x wr => ∃ i : Nat, i ≤ 3 ∧ x = .int .i64 i ∧ Below wf.heap.size wf wr) (fun x _ => 3 - (intOf x).toNat)
          case atStart => exact ⟨0, by omega, rfl, KB.out⟩
          case round =>
            obtain ⟨i, hi', rfl, hb1⟩ := hrel
            obtain ⟨w6, rfl⟩ : ∃ w6 : World, w6 = wr := ⟨_, rfl⟩
            rcases (show i = 3 ∨ i < 3 by omega) with rfl | hi
            · have HZ := Lib.hid (K.out.2.2.trans (hb1.mono K.out.2.2.size))
              clear hb1
              go_wp2
              go_ret
              exact ⟨rfl, HZ.out⟩
            · have KD := Lib.hid hb1
              have iI : (i : Int) < 3 := by omega
              clear hb1
              go_wp2
              go_loopw [16] (fun x wr => ∃ j : Nat, j ≤ 3 ∧ x = .int .i64 j ∧ Below wf.heap.size wf wr) (fun x _ => 3 - (intOf x).toNat)
              case atStart => exact ⟨0, by omega, rfl, KD.out⟩
              case round =>
                obtain ⟨j, hj', rfl, hb2⟩ := hrel
                obtain ⟨w7, rfl⟩ : ∃ w7 : World, w7 = wr := ⟨_, rfl⟩
                rcases (show j = 3 ∨ j < 3 by omega) with rfl | hj
                · have KE := Lib.hid hb2
                  clear hb2
                  go_wp2
                  go_roundw
                  case rel => exact ⟨i + 1, by omega, by go_num, KE.out⟩
                  case measure => simp [intOf]; omega
                · have KE := Lib.hid hb2
                  have jJ : (j : Int) < 3 := by omega
                  clear hb2
                  go_wp2
                  go_loopw [17] (fun x wr => ∃ k : Nat, k ≤ 3 ∧ x = .int .i64 k ∧ Below wf.heap.size wf wr) (fun x _ => 3 - (intOf x).toNat)
                  case atStart => exact ⟨0, by omega, rfl, KE.out⟩
                  case round =>
                    obtain ⟨k, hk', rfl, hb3⟩ := hrel
                    rcases (show k = 3 ∨ k < 3 by omega) with rfl | hk
                    · have KF := Lib.hid hb3
                      clear hb3
                      go_wp2
                      go_roundw
                      case rel => exact ⟨j + 1, by omega, by go_num, KF.out⟩
                      case measure => simp [intOf]; omega
                    · have hM := K.out.1.kept hb3
                      have KF := Lib.hid hb3
                      have KM := Lib.hid hM
                      have kK : (k : Int) < 3 := by omega
                      clear hb3 hM
                      have L1 := Lib.hid (fun (x : World) hx => less_any (w.heap.size + 1 + 1 + 1 + 1) i j C S R N fl x hx K.out.2.1 hi hj)
                      have L2 := Lib.hid (fun (x : World) hx => less_any (w.heap.size + 1 + 1 + 1 + 1) j k C S R N fl x hx K.out.2.1 hj hk)
                      have L3 := Lib.hid (fun (x : World) hx => less_any (w.heap.size + 1 + 1 + 1 + 1) i k C S R N fl x hx K.out.2.1 hi hk)
                      have TR : Hid (ls C S N i j = true → ls C S N j k = true → ls C S N i k = true) := Lib.hid (key_trans _ _ _ _ _ _ _ _ _)
                      generalize ls C S N i j = l1 at *
                      generalize ls C S N j k = l2 at *
                      generalize ls C S N i k = l3 at *
                      cases l1
                      · go_wp2_with fail
                        refine (L1.out _ KM.out.2.2.2.2).mono ?_
                        rintro e x1 ⟨rfl, B1⟩
                        have HZ := Lib.hid (KF.out.trans (B1.mono KF.out.size))
                        clear B1
                        go_wp2
                        go_roundw
                        case rel => exact ⟨k + 1, by omega, by go_num, HZ.out⟩
                        case measure => simp [intOf]; omega
                      · cases l2
                        · go_wp2_with fail
                          refine (L1.out _ KM.out.2.2.2.2).mono ?_
                          rintro e x1 ⟨rfl, B1⟩
                          have KB1 := Lib.hid B1
                          clear B1
                          go_wp2_with fail
                          refine (L2.out _ (KM.out.2.2.2.2.kept KB1.out)).mono ?_
                          rintro e x2 ⟨rfl, B2⟩
                          have HZ := Lib.hid (KF.out.trans ((below_two KB1.out B2).mono KF.out.size))
                          clear B2
                          go_wp2
                          go_roundw
                          case rel => exact ⟨k + 1, by omega, by go_num, HZ.out⟩
                          case measure => simp [intOf]; omega
                        · obtain rfl := TR.out rfl rfl
                          go_wp2_with fail
                          refine (L1.out _ KM.out.2.2.2.2).mono ?_
                          rintro e x1 ⟨rfl, B1⟩
                          have KB1 := Lib.hid B1
                          clear B1
                          go_wp2_with fail
                          refine (L2.out _ (KM.out.2.2.2.2.kept KB1.out)).mono ?_
                          rintro e x2 ⟨rfl, B2⟩
                          have KB2 := Lib.hid (below_two KB1.out B2)
                          clear B2
                          go_wp2_with fail
                          refine (L3.out _ (KM.out.2.2.2.2.kept KB2.out)).mono ?_
                          rintro e x3 ⟨rfl, B3⟩
                          have HZ := Lib.hid (KF.out.trans ((below_two KB2.out B3).mono KF.out.size))
                          clear B3
                          go_wp2
                          go_roundw
                          case rel => exact ⟨k + 1, by omega, by go_num, HZ.out⟩
                          case measure => simp [intOf]; omega
        · obtain ⟨wg, rfl⟩ : ∃ wg : World, wg = wr := ⟨_, rfl⟩
          have KB := Lib.hid hb1
          clear hb1
          have iI : (i : Int) < 3 := by omega
          have i0 : (0 : Int) ≤ (i : Int) := by omega
          go_wp2
          go_loopw [12] (fun x wr => ∃ j : Nat, j ≤ 3 ∧ x = .int .i64 j ∧ Below wf.heap.size wf wr) (fun x _ => 3 - (intOf x).toNat)
          case atStart => exact ⟨0, by omega, rfl, KB.out⟩
          case round =>
            obtain ⟨j, hj', rfl, hb2⟩ := hrel
            rcases (show j = 3 ∨ j < 3 by omega) with rfl | hj
            · have KC := Lib.hid hb2
              clear hb2
              go_wp2
              go_roundw
              case rel => exact ⟨i + 1, by omega, by go_num, KC.out⟩
              case measure => simp [intOf]; omega
            · have hM := K.out.1.kept hb2
              have KC := Lib.hid hb2
              have jJ : (j : Int) < 3 := by omega
              have j0 : (0 : Int) ≤ (j : Int) := by omega
              have c0 := hM.1.int (i := i) (by rw [HL.out.1]; exact hi)
              have c1 := hM.1.int (i := j) (by rw [HL.out.1]; exact hj)
              have s0 := hM.2.1.int (i := i) (by rw [HL.out.2.1]; exact hi)
              have s1 := hM.2.1.int (i := j) (by rw [HL.out.2.1]; exact hj)
              have n0 := hM.2.2.2.1.int (i := i) (by rw [HL.out.2.2.2]; exact hi)
              have n1 := hM.2.2.2.1.int (i := j) (by rw [HL.out.2.2.2]; exact hj)
              have KM := Lib.hid hM
              clear hb2 hM
              have h3 := key_three (nth C i) (nth S i) (nth N i) (nth C j) (nth S j) (nth N j)
              have L1 : Hid (ls C S N i j = keyLess (nth C i) (nth S i) (nth N i) (nth C j) (nth S j) (nth N j)) := Lib.hid rfl
              have L2 : Hid (ls C S N j i = keyLess (nth C j) (nth S j) (nth N j) (nth C i) (nth S i) (nth N i)) := Lib.hid rfl
              have LS1 := Lib.hid (fun (x : World) hx => less_any (w.heap.size + 1 + 1 + 1 + 1) i j C S R N fl x hx K.out.2.1 hi hj)
              have LS2 := Lib.hid (fun (x : World) hx => less_any (w.heap.size + 1 + 1 + 1 + 1) j i C S R N fl x hx K.out.2.1 hj hi)
              generalize ls C S N i j = l1 at *
              generalize ls C S N j i = l2 at *
              have hE : (nth C i = nth C j ∧ nth S i = nth S j ∧ nth N i = nth N j) ∨ (nth C i = nth C j ∧ nth S i = nth S j ∧ ¬ nth N i = nth N j) ∨ (nth C i = nth C j ∧ ¬ nth S i = nth S j) ∨ ¬ nth C i = nth C j := by
                by_cases a : nth C i = nth C j <;> by_cases b : nth S i = nth S j <;> by_cases c : nth N i = nth N j <;> simp [a, b, c]
              have hT : (l1 = false ∧ l2 = false ∧ (nth C i = nth C j ∧ nth S i = nth S j ∧ nth N i = nth N j)) ∨ (l1 = !l2 ∧ ¬ (nth C i = nth C j ∧ nth S i = nth S j ∧ nth N i = nth N j)) := by
                rcases h3 with ⟨a, b, c⟩ | ⟨a, b, c⟩ | ⟨a, b, c⟩
                · exact .inr ⟨by rw [L1.out, L2.out, a, b]; rfl, c⟩
                · exact .inr ⟨by rw [L1.out, L2.out, a, b]; rfl, c⟩
                · exact .inl ⟨L1.out.trans a, L2.out.trans b, c⟩
              clear h3 L1 L2
              have hEB : ((nth C i == nth C j) = true ∧ (nth S i == nth S j) = true ∧ (nth N i == nth N j) = true ∧ l1 = false ∧ l2 = false) ∨ ((nth C i == nth C j) = true ∧ (nth S i == nth S j) = true ∧ (nth N i == nth N j) = false ∧ l1 = !l2) ∨ ((nth C i == nth C j) = true ∧ (nth S i == nth S j) = false ∧ l1 = !l2) ∨ ((nth C i == nth C j) = false ∧ l1 = !l2) := by
                rcases hE with ⟨a, b, c⟩ | ⟨a, b, c⟩ | ⟨a, b⟩ | a
                · rcases hT with ⟨p, q, _⟩ | ⟨_, q⟩
                  · exact .inl ⟨by simpa using a, by simpa using b, by simpa using c, p, q⟩
                  · exact absurd ⟨a, b, c⟩ q
                · rcases hT with ⟨_, _, q⟩ | ⟨p, _⟩
                  · exact absurd q.2.2 c
                  · exact .inr (.inl ⟨by simpa using a, by simpa using b, by simpa using c, p⟩)
                · rcases hT with ⟨_, _, q⟩ | ⟨p, _⟩
                  · exact absurd q.2.1 b
                  · exact .inr (.inr (.inl ⟨by simpa using a, by simpa using b, p⟩))
                · rcases hT with ⟨_, _, q⟩ | ⟨p, _⟩
                  · exact absurd q.1 a
                  · exact .inr (.inr (.inr ⟨by simpa using a, p⟩))
              clear hE hT
              rcases hEB with ⟨t1, t2, t3, rfl, rfl⟩ | ⟨t1, t2, t3, rfl⟩ | ⟨t1, t2, rfl⟩ | ⟨t1, rfl⟩
              · go_wp2
                go_quiet (fail)
                have B0 : Below wr.heap.size wr (wr.drewN nq) := below_dN wr nq
                go_wp2_with fail
                refine (LS1.out _ (KM.out.2.2.2.2.kept B0)).mono ?_
                rintro e x1 ⟨rfl, B1⟩
                have B1' := below_two B0 B1
                clear B0 B1
                go_wp2_with fail
                refine (LS2.out _ (KM.out.2.2.2.2.kept B1')).mono ?_
                rintro e x2 ⟨rfl, B2⟩
                have HZ := Lib.hid (KC.out.trans ((below_two B1' B2).mono KC.out.size))
                clear B1' B2
                go_wp2
                go_roundw
                case rel => exact ⟨j + 1, by omega, by go_num, HZ.out⟩
                case measure => simp [intOf]; omega
              · cases l2
                · go_wp2
                  go_quiet (fail)
                  have B0 : Below wr.heap.size wr (wr.drewN nq) := below_dN wr nq
                  go_wp2_with fail
                  refine (LS1.out _ (KM.out.2.2.2.2.kept B0)).mono ?_
                  rintro e x1 ⟨rfl, B1⟩
                  have B1' := below_two B0 B1
                  clear B0 B1
                  go_wp2_with fail
                  refine (LS2.out _ (KM.out.2.2.2.2.kept B1')).mono ?_
                  rintro e x2 ⟨rfl, B2⟩
                  have HZ := Lib.hid (KC.out.trans ((below_two B1' B2).mono KC.out.size))
                  clear B1' B2
                  go_wp2
                  go_roundw
                  case rel => exact ⟨j + 1, by omega, by go_num, HZ.out⟩
                  case measure => simp [intOf]; omega
                · go_wp2
                  go_quiet (fail)
                  have B0 : Below wr.heap.size wr (wr.drewN nq) := below_dN wr nq
                  go_wp2_with fail
                  refine (LS1.out _ (KM.out.2.2.2.2.kept B0)).mono ?_
                  rintro e x1 ⟨rfl, B1⟩
                  have B1' := below_two B0 B1
                  clear B0 B1
                  go_wp2_with fail
                  refine (LS2.out _ (KM.out.2.2.2.2.kept B1')).mono ?_
                  rintro e x2 ⟨rfl, B2⟩
                  have HZ := Lib.hid (KC.out.trans ((below_two B1' B2).mono KC.out.size))
                  clear B1' B2
                  go_wp2
                  go_roundw
                  case rel => exact ⟨j + 1, by omega, by go_num, HZ.out⟩
                  case measure => simp [intOf]; omega
              · cases l2
                · go_wp2
                  go_quiet (fail)
                  have B0 : Below wr.heap.size wr (wr.drewN nq) := below_dN wr nq
                  go_wp2_with fail
                  refine (LS1.out _ (KM.out.2.2.2.2.kept B0)).mono ?_
                  rintro e x1 ⟨rfl, B1⟩
                  have B1' := below_two B0 B1
                  clear B0 B1
                  go_wp2_with fail
                  refine (LS2.out _ (KM.out.2.2.2.2.kept B1')).mono ?_
                  rintro e x2 ⟨rfl, B2⟩
                  have HZ := Lib.hid (KC.out.trans ((below_two B1' B2).mono KC.out.size))
                  clear B1' B2
                  go_wp2
                  go_roundw
                  case rel => exact ⟨j + 1, by omega, by go_num, HZ.out⟩
                  case measure => simp [intOf]; omega
                · go_wp2
                  go_quiet (fail)
                  have B0 : Below wr.heap.size wr (wr.drewN nq) := below_dN wr nq
                  go_wp2_with fail
                  refine (LS1.out _ (KM.out.2.2.2.2.kept B0)).mono ?_
                  rintro e x1 ⟨rfl, B1⟩
                  have B1' := below_two B0 B1
                  clear B0 B1
                  go_wp2_with fail
                  refine (LS2.out _ (KM.out.2.2.2.2.kept B1')).mono ?_
                  rintro e x2 ⟨rfl, B2⟩
                  have HZ := Lib.hid (KC.out.trans ((below_two B1' B2).mono KC.out.size))
                  clear B1' B2
                  go_wp2
                  go_roundw
                  case rel => exact ⟨j + 1, by omega, by go_num, HZ.out⟩
                  case measure => simp [intOf]; omega
              · cases l2
                · go_wp2
                  go_quiet (fail)
                  have B0 : Below wr.heap.size wr (wr.drewN nq) := below_dN wr nq
                  go_wp2_with fail
                  refine (LS1.out _ (KM.out.2.2.2.2.kept B0)).mono ?_
                  rintro e x1 ⟨rfl, B1⟩
                  have B1' := below_two B0 B1
                  clear B0 B1
                  go_wp2_with fail
                  refine (LS2.out _ (KM.out.2.2.2.2.kept B1')).mono ?_
                  rintro e x2 ⟨rfl, B2⟩
                  have HZ := Lib.hid (KC.out.trans ((below_two B1' B2).mono KC.out.size))
                  clear B1' B2
                  go_wp2
                  go_roundw
                  case rel => exact ⟨j + 1, by omega, by go_num, HZ.out⟩
                  case measure => simp [intOf]; omega
                · go_wp2
                  go_quiet (fail)
                  have B0 : Below wr.heap.size wr (wr.drewN nq) := below_dN wr nq
                  go_wp2_with fail
                  refine (LS1.out _ (KM.out.2.2.2.2.kept B0)).mono ?_
                  rintro e x1 ⟨rfl, B1⟩
                  have B1' := below_two B0 B1
                  clear B0 B1
                  go_wp2_with fail
                  refine (LS2.out _ (KM.out.2.2.2.2.kept B1')).mono ?_
                  rintro e x2 ⟨rfl, B2⟩
                  have HZ := Lib.hid (KC.out.trans ((below_two B1' B2).mono KC.out.size))
                  clear B1' B2
                  go_wp2
                  go_roundw
                  case rel => exact ⟨j + 1, by omega, by go_num, HZ.out⟩
                  case measure => simp [intOf]; omega
    · have d0 := hM.1.int (i := k) (by rw [HL.out.1]; exact hlt)
      have d1 := hM.2.1.int (i := k) (by rw [HL.out.2.1]; exact hlt)
      have d2 := hM.2.2.1.int (i := k) (by rw [HL.out.2.2.1]; exact hlt)
      have d3 := hM.2.2.2.1.int (i := k) (by rw [HL.out.2.2.2]; exact hlt)
      have hfl := hQ.1
      have e0 := hM.2.2.2.2.int (i := k * 4) (by omega)
      have e1 := hM.2.2.2.2.int (i := k * 4 + 1) (by omega)
      have e2 := hM.2.2.2.2.int (i := k * 4 + 2) (by omega)
      have e3 := hM.2.2.2.2.int (i := k * 4 + 3) (by omega)
      have f0 := hM.2.2.2.2.free (k * 4)
      have f1 := hM.2.2.2.2.free (k * 4 + 1)
      have f2 := hM.2.2.2.2.free (k * 4 + 2)
      have f3 := hM.2.2.2.2.free (k * 4 + 3)
      have HN := Lib.hid (And.intro hM (And.intro hQ hbel))
      have iK : (k : Int) < 3 := by omega
      have i0 : (0 : Int) ≤ (k : Int) := by omega
      clear hM hQ hbel hfl Q
      go_wp2
      go_region
      clear d0 d1 d2 d3 e0 e1 e2 e3 f0 f1 f2 f3
      go_wp2
      go_roundw
      case rel =>
        refine ⟨k + 1, _, by omega, by go_num, ?_, quad_step HN.out.2.1 hlt, (((((HN.out.2.2.setCell (p := ⟨w.heap.size + 1 + 1 + 1 + 1, k * 4, none⟩) (by simp; omega) _).setCell (p := ⟨w.heap.size + 1 + 1 + 1 + 1, k * 4 + 1, none⟩) (by simp; omega) _).setCell (p := ⟨w.heap.size + 1 + 1 + 1 + 1, k * 4 + 2, none⟩) (by simp; omega) _).setCell (p := ⟨w.heap.size + 1 + 1 + 1 + 1, k * 4 + 3, none⟩) (by simp; omega) _)).drew⟩
        obtain ⟨m0, m1, m2, m3, m4⟩ := HN.out.1
        refine ⟨?_, ?_, ?_, ?_, ((((m4.put (k * 4) (nth S k)).put (k * 4 + 1) (nth R k)).put (k * 4 + 2) (nth N k)).put (k * 4 + 3) (nth C k)).drew⟩
        · exact blk_set_ne (blk_set_ne (blk_set_ne (blk_set_ne m0 (by omega) _ _ _) (by omega) _ _ _) (by omega) _ _ _) (by omega) _ _ _
        · exact blk_set_ne (blk_set_ne (blk_set_ne (blk_set_ne m1 (by omega) _ _ _) (by omega) _ _ _) (by omega) _ _ _) (by omega) _ _ _
        · exact blk_set_ne (blk_set_ne (blk_set_ne (blk_set_ne m2 (by omega) _ _ _) (by omega) _ _ _) (by omega) _ _ _) (by omega) _ _ _
        · exact blk_set_ne (blk_set_ne (blk_set_ne (blk_set_ne m3 (by omega) _ _ _) (by omega) _ _ _) (by omega) _ _ _) (by omega) _ _ _
      case measure => simp [intOf]; omega

theorem own : ownKnob Try.prog.godebug = none := by kernel_rfl
theorem laidOut : laidOutB Try.prog = true := by kernel_rfl
theorem cells23 : Try.prog.cellsOf 23 = 3 := by kernel_rfl
theorem cells22 : Try.prog.cellsOf 22 = 1 := by kernel_rfl
theorem list3 {α : Type} (l : List α) (h : l.length = 3) : ∃ a b c, l = [a, b, c] := by
  match l, h with
  | [a, b, c], _ => exact ⟨a, b, c, rfl⟩
theorem open_arr {H : Type} {enc : TypeId × Value → H} {W : World} {base : Nat} {v : Value} {d : DataW H} {p : List MemPlace} (hv : Value.okWide Try.prog W .any base 23 v)
    (h : DataW.Trod enc Try.prog W 0 (fun _ => true) true 23 v d p) : ∃ x y z : Int, v = .agg #[.int .u32 x, .int .u32 y, .int .u32 z] := by
  obtain ⟨cs, rfl, hsz, _⟩ : ∃ cs, v = .agg cs ∧ cs.size = Try.prog.cellsOf 23 ∧ Row.okWide Try.prog W .any base 23 cs := by
    simpa [Value.okWide, Try.underlying23] using hv
  rw [cells23] at hsz
  obtain ⟨l⟩ := cs
  obtain ⟨c0, c1, c2, rfl⟩ := list3 l hsz
  obtain ⟨fuel, hf⟩ := h
  obtain ⟨y0, y1, y2, m, hx, hy0, hy1, hy2⟩ := trod_array3 Try.underlying23 cells22 hf
  obtain ⟨x0, e0, rfl, w0⟩ := DataW.trod_int Try.underlying22 hy0
  obtain ⟨x1, e1, rfl, w1⟩ := DataW.trod_int Try.underlying22 hy1
  obtain ⟨x2, e2, rfl, w2⟩ := DataW.trod_int Try.underlying22 hy2
  simp at e0 e1 e2
  subst e0 e1 e2
  exact ⟨x0, x1, x2, rfl⟩

set_option maxRecDepth 100000 in
theorem lifted (os : Os) (started : os.Started) (H : Type) (enc : TypeId × Value → H) :
    ReturnsInHanded {} Try.checked os 3 .any (Rows.fnStableSymbolCountLessIsStrictTotalOrderSpec.pre6 enc Try.prog Try.f3 Rows.fnStableSymbolCountLessIsStrictTotalOrderRow.domain false) (Rows.fnStableSymbolCountLessIsStrictTotalOrderSpec.post enc Try.prog Try.f3 false true false false) := by
  refine returnsInHanded_of_change (C := Try.checked) own started (by kernel_rfl) Try.func3
    (ChangeSpec.witness6 (enc := enc) (C := Try.checked) false ⟨#[], #[.agg #[.int .u32 0, .int .u32 0, .int .u32 0], .agg #[.int .u32 0, .int .u32 0, .int .u32 0], .agg #[.int .u32 0, .int .u32 0, .int .u32 0], .agg #[.int .u32 0, .int .u32 0, .int .u32 0]], []⟩ 8 (by kernel_rfl) (by kernel_rfl) (by kernel_rfl) (by kernel_rfl)) ?_
  intro W base args ds gs before hval0 hW hcnd _
  have hval : ∀ (j : Nat) t v, Try.f3.params[j]? = some t → args[j]? = some v → Value.okWide Try.prog W .any base t v := hval0
  have hW' := hW
  obtain ⟨p, q, hA0, hV, rfl, hfz, hnd⟩ := hW
  have hA : DataW.TrodAll enc Try.prog W 0 (fun _ => true) true Try.f3.params.toList args.toList ds p := hA0
  rw [Try.params3] at hA hval
  obtain ⟨v0, vs0, d0, ds0, p0, q0, hargs, rfl, rfl, h0, r0⟩ := trodAll_cons hA
  obtain ⟨v1, vs1, d1, ds1, p1, q1, rfl, rfl, rfl, h1, r1⟩ := trodAll_cons r0
  obtain ⟨v2, vs2, d2, ds2, p2, q2, rfl, rfl, rfl, h2, r2⟩ := trodAll_cons r1
  obtain ⟨v3, vs3, d3, ds3, p3, q3, rfl, rfl, rfl, h3, r3⟩ := trodAll_cons r2
  obtain ⟨rfl, rfl, rfl⟩ := trodAll_nil r3
  obtain rfl : args = #[v0, v1, v2, v3] := by cases args; simp_all
  obtain ⟨rfl, rfl⟩ := trodVars_none hV
  have k0 := h0
  have lt0 : ∀ x ∈ p0, x.block < W.heap.size := by obtain ⟨m, hm⟩ := k0; exact DataW.trod_lt m _ _ _ hm
  obtain ⟨x0, y0, z0, rfl⟩ := open_arr (hval 0 23 v0 rfl rfl) h0
  have k1 := h1
  have lt1 : ∀ x ∈ p1, x.block < W.heap.size := by obtain ⟨m, hm⟩ := k1; exact DataW.trod_lt m _ _ _ hm
  obtain ⟨x1, y1, z1, rfl⟩ := open_arr (hval 1 23 v1 rfl rfl) h1
  have k2 := h2
  have lt2 : ∀ x ∈ p2, x.block < W.heap.size := by obtain ⟨m, hm⟩ := k2; exact DataW.trod_lt m _ _ _ hm
  obtain ⟨x2, y2, z2, rfl⟩ := open_arr (hval 2 23 v2 rfl rfl) h2
  have k3 := h3
  have lt3 : ∀ x ∈ p3, x.block < W.heap.size := by obtain ⟨m, hm⟩ := k3; exact DataW.trod_lt m _ _ _ hm
  obtain ⟨x3, y3, z3, rfl⟩ := open_arr (hval 3 23 v3 rfl rfl) h3
  clear hA0 hval0
  refine (main [x0, y0, z0] [x1, y1, z1] [x2, y2, z2] [x3, y3, z3] rfl rfl rfl rfl W).mono fun e W' ⟨he, bel⟩ => ?_
  subst he
  exact ⟨_, rfl, _, _, _, [], _, [], hW', trodAll_mk1 (shut_bool Try.underlying4 _), (trodAll_cons_mk (Below.trod laidOut (by kernel_rfl) (of_decide_eq_true (by kernel_rfl)) k0 bel lt0) (trodAll_cons_mk (Below.trod laidOut (by kernel_rfl) (of_decide_eq_true (by kernel_rfl)) k1 bel lt1) (trodAll_cons_mk (Below.trod laidOut (by kernel_rfl) (of_decide_eq_true (by kernel_rfl)) k2 bel lt2) (trodAll_cons_mk (Below.trod laidOut (by kernel_rfl) (of_decide_eq_true (by kernel_rfl)) k3 bel lt3) trodAll_mk0)))), rfl, bel.frame _, fun h => by cases h⟩

theorem over : Rows.fnStableSymbolCountLessIsStrictTotalOrderRow.holds Try.pinned (OpenSpec.ofChange Rows.fnStableSymbolCountLessIsStrictTotalOrderSpec) :=
  OpenClaim.holds_of_wide 3 Try.f3 rfl rfl rfl rfl rfl rfl rfl ⟨rfl, rfl, rfl, rfl, rfl⟩ rfl rfl rfl rfl rfl (by kernel_rfl) Try.func3 (by kernel_rfl)
    (of_decide_eq_true (by kernel_rfl)) (by unfold Func.isWrapper; first | (rw [if_pos (by decide +kernel)]; kernel_rfl) | (rw [if_neg (by decide +kernel)]; exact ⟨rfl, rfl⟩))
    (fun os started H enc _ => lifted os started H enc)

theorem proved : Rows.FnStableSymbolCountLessIsStrictTotalOrderSaid := over
#print axioms proved
end Go.Proofs.Ytbicjmaogbaldab.fnStableSymbolCountLessIsStrictTotalOrder
