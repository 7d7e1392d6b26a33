/-
  The walk of encodeVLQ. No statement of the seat is proved here.
-/
import Derived.Test.YtfbeeekakfllpaaDoorRows
import Derived.WalkKit
import Derived.ProofKit
import Derived.WalkSpells
import Derived.WalkLawsBesides
import Derived.LoopTactic
import Derived.RegionTactic
import Derived.ChangeAlike
import Derived.BigQuiet
import Derived.Deep.QuietTactic
import Derived.OwnWalk
import Derived.WalkSmall
import Derived.Lib.Quote
import Derived.Laws.BitsAllLaws
import Derived.Test.YtfbeeekakfllpaaDoorOwn
import Derived.Test.YtfbeeekakfllpaaDoorTk
import Derived.Test.YtfbeeekakfllpaaDoorBits
namespace Go.Proofs.YtfbeeekakfllpaaDoor
open Go.RowKit
theorem copyB_info : (Tryd.prog.info? 5).map (fun i => (i.zero, i.size, i.bytes)) = some (some (.int .u8 0), 1, 1) := by kernel_rfl
/-- the alphabet lies in the variable (its block and the variable's own below B) -/
def Tab (w : World) (B : Nat) : Prop := 2 < B ∧ ∃ R o c, R < B ∧ w.cell? ⟨2, 0, none⟩ = some (.slice (some ⟨R, o, none⟩) 64 c) ∧ ∀ j, j < 64 → w.cell? ⟨R, o + j, none⟩ = some (.int .u8 (b64at j : Nat))
theorem Tab.below {w w' : World} {B : Nat} (h : Tab w B) (hb : Below B w w') : Tab w' B := by
  obtain ⟨h0, R, o, c, hR, h1, h2⟩ := h
  exact ⟨h0, R, o, c, hR, (hb.cell (p := ⟨2, 0, none⟩) h0).trans h1, fun j hj => (hb.cell (p := ⟨R, o + j, none⟩) hR).trans (h2 j hj)⟩
theorem Tab.of {w : World} (h : Lib.TabSlice 2 .u8 b64 w) : Tab w w.heap.size := by
  obtain ⟨R, o, c, h1, h2⟩ := h
  exact ⟨World.block_lt_of_cell? w _ h1, R, o, c, World.block_lt_of_cell? w _ (h2 0 (by decide)), h1, fun j hj => h2 j hj⟩
def IsEnc (B : Nat) (v : Value) (xs : List Int) (z : Int) (w : World) (e : Ending) (w' : World) : Prop := ∃ v', e = .returned v' ∧ Own .u8 5 w' B v' (xs ++ enc z) ∧ Gr w v w' v' ∧ v' ≠ .slice none 0 0
def EncRel (B : Nat) (v : Value) (xs : List Int) (V : Nat) (w : World) (vv : Value) (ds : List Nat) (u : Nat) (wr : World) : Prop :=
  ds ++ dgs (7 - ds.length) u = dgs 7 V ∧ Own .u8 5 wr B vv (xs ++ ds.map fun d => ((b64at d : Nat) : Int)) ∧ Gr w v wr vv ∧ Tab wr B
set_option maxHeartbeats 1000000 in
theorem enc_any (B : Nat) (v : Value) (xs : List Int) (z : Int) (w : World) (ht : Tab w B) (hB : B ≤ w.heap.size) (hown : Own .u8 5 w B v xs) (hz0 : -1073741823 ≤ z) (hz1 : z ≤ 1073741823) (hl : xs.length ≤ 1073741824) :
    Calls Tryd.prog 42 #[v, .int .i64 z] w (IsEnc B v xs z w) := by
  have HT := Lib.hid ht
  have HO := Lib.hid hown
  obtain ⟨V, hV⟩ : ∃ V, V = vlq z := ⟨_, rfl⟩
  have HV := Lib.hid hV
  have hVb : V < 2147483648 := by rw [hV]; unfold vlq; split <;> omega
  clear ht hown
  have hcase : (z < 0 ∧ bits .or .i64 (-z * 2) 1 = (V : Int)) ∨ (0 ≤ z ∧ z * 2 = (V : Int)) := by
    by_cases hz : z < 0
    · left
      refine ⟨hz, ?_⟩
      have := or1 (-z).toNat (by omega)
      rw [show ((2 * (-z).toNat : Nat) : Int) = -z * 2 from by omega] at this
      rw [this, hV, vlq, if_pos hz]
    · right
      refine ⟨by omega, ?_⟩
      rw [hV, vlq, if_neg hz]
      omega
  clear hV
  rcases (show V < 32 ∨ 32 ≤ V by omega) with hs | hs
  · have e1 : bits .and .i64 (V : Int) 31 = (V : Int) := by rw [and31 V (by omega), Nat.mod_eq_of_lt hs]
    have e2 : ((V : Int) / 32 == 0) = true := by simp; omega
    obtain ⟨h0, R, o, c, hR, c0, cT⟩ := HT.out
    have cV := cT V (by omega)
    clear cT
    have i0 : (0 : Int) ≤ (V : Int) := by omega
    have i1 : (V : Int) < 64 := by omega
    rcases hcase with ⟨hz, eV⟩ | ⟨hz, eV⟩
    all_goals
      go_enter Tryd.func42, Tryd.ntmps42
      go_wp2_with (at_builtin; refine wpList_push w rfl (.tmp 21) (.tmp 26) 22 rfl B 5 .u8 1 Tryd.underlying22 copyB_info v xs _ rfl HO.out rfl (by unfold maxLen; omega) (by omega) hB ?_; intro v' w1 ho1 hg1 hn1)
      go_ret
      refine ⟨_, rfl, ?_, hg1, hn1⟩
      have : enc z = [((b64at V : Nat) : Int)] := by
        unfold enc; rw [← HV.out, dgs, if_pos hs]; rfl
      rw [this]; exact ho1
  · have e2 : ((V : Int) / 32 == 0) = false := by simp; omega
    rcases hcase with ⟨hz, eV⟩ | ⟨hz, eV⟩
    all_goals
      go_enter Tryd.func42, Tryd.ntmps42
      go_wp2_with fail
      go_loopw [0, 5] (fun x y wr => ∃ (vv : Value) (ds : List Nat) (u : Nat), vv = x ∧ y = .int .i64 u ∧ 0 < u ∧ u < 32 ^ (7 - ds.length) ∧ ds.length ≤ 6 ∧ B ≤ wr.heap.size ∧ Hid (EncRel B v xs V w vv ds u wr)) (fun _ y _ => (intOf y).toNat)
      case atStart => exact ⟨v, [], V, rfl, rfl, by omega, by simp; omega, by simp, hB, Lib.hid ⟨rfl, by simpa using HO.out, Gr.refl _ _, HT.out⟩⟩
      case round =>
        obtain ⟨vv, ds, u, rfl, rfl, hu0, hu1, hd, hBw, HE⟩ := hrel
        obtain ⟨m, hm⟩ : ∃ m, 7 - ds.length = m + 1 := ⟨6 - ds.length, by omega⟩
        have HU := Lib.hid (hm ▸ hu1 : u < 32 ^ (m + 1))
        have hub : u < 34359738368 := by
          have h1 : (32 : Nat) ^ (m + 1) ≤ 32 ^ 7 := Nat.pow_le_pow_right (by decide) (by omega)
          have h2 := HU.out
          have h3 : (32 : Nat) ^ 7 = 34359738368 := by decide
          omega
        have HM := Lib.hid hm
        obtain ⟨h0, R, o, c, hR, c0, cT⟩ := HE.out.2.2.2
        obtain ⟨ys, hys⟩ : ∃ ys, ys = xs ++ ds.map fun d => ((b64at d : Nat) : Int) := ⟨_, rfl⟩
        have HOY : Hid (Own .u8 5 wr B vv ys) := Lib.hid (hys ▸ HE.out.2.1)
        have HY := Lib.hid hys
        have hlen : ys.length ≤ 1073741830 := by rw [hys]; simp; omega
        clear hys
        clear hu1 hm
        rcases (show u < 32 ∨ 32 ≤ u by omega) with hu | hu
        · have e1' : bits .and .i64 (u : Int) 31 = (u : Int) := by rw [and31 u (by omega), Nat.mod_eq_of_lt hu]
          have e2' : (u : Int) / 32 = 0 := by omega
          have cV := cT u (by omega)
          have i0 : (0 : Int) ≤ (u : Int) := by omega
          have i1 : (u : Int) < 64 := by omega
          clear cT
          go_wp2_with (at_builtin; refine wpList_push wr rfl (.tmp 37) (.tmp 42) 22 rfl B 5 .u8 1 Tryd.underlying22 copyB_info vv ys _ rfl HOY.out rfl (by unfold maxLen; omega) (by omega) hBw ?_; intro v' w1 ho1 hg1 hn1)
          go_ret
          refine ⟨_, rfl, ?_, HE.out.2.2.1.trans hg1, hn1⟩
          have : enc z = (ds.map fun d => ((b64at d : Nat) : Int)) ++ [((b64at u : Nat) : Int)] := by
            unfold enc; rw [← HV.out, ← HE.out.1, HM.out, dgs, if_pos hu]; simp
          rw [this, ← List.append_assoc, ← HY.out]; exact ho1
        · obtain ⟨d0, hd0⟩ : ∃ d0, d0 = u % 32 := ⟨_, rfl⟩
          obtain ⟨dd, hdd⟩ : ∃ dd, dd = u % 32 + 32 := ⟨_, rfl⟩
          obtain ⟨q, hq⟩ : ∃ q, q = u / 32 := ⟨_, rfl⟩
          have e1' : bits .and .i64 (u : Int) 31 = (d0 : Int) := by rw [and31 u (by omega), hd0]
          have e2' : (u : Int) / 32 = (q : Int) := by omega
          have e3' : bits .or .i64 (d0 : Int) 32 = (dd : Int) := by rw [or32 d0 (by omega), hdd, hd0]
          have hq1 : ((q : Int) != 0) = true := by simp; omega
          have hq2 : ((q : Int) == 0) = false := by simp; omega
          have cV := cT dd (by omega)
          have i0 : (0 : Int) ≤ (dd : Int) := by omega
          have i1 : (dd : Int) < 64 := by omega
          have hqu : q < u := by omega
          have hq0 : 0 < q := by omega
          have HQ : Hid (dd = u % 32 + 32 ∧ q = u / 32) := Lib.hid ⟨hdd, hq⟩
          have hm1 : 1 ≤ m := by
            rcases Nat.eq_zero_or_pos m with rfl | h
            · have := HU.out; simp at this; omega
            · exact h
          clear cT hd0 hdd hq
          go_wp2_with (at_builtin; refine wpList_push wr rfl (.tmp 37) (.tmp 42) 22 rfl B 5 .u8 1 Tryd.underlying22 copyB_info vv ys _ rfl HOY.out rfl (by unfold maxLen; omega) (by omega) hBw ?_; intro v' w1 ho1 hg1 hn1)
          have HZ : Hid (EncRel B v xs V w v' (ds ++ [dd]) q w1) := Lib.hid (by
            refine ⟨?_, ?_, HE.out.2.2.1.trans hg1, ?_⟩
            · rw [← HE.out.1, HM.out, dgs, if_neg (by omega), ← HQ.out.1, ← HQ.out.2, List.append_assoc, List.length_append, show 7 - (ds.length + [dd].length) = m from by have := HM.out; simp; omega]
              rfl
            · rw [List.map_append, ← List.append_assoc, ← HY.out]; exact ho1
            · exact HE.out.2.2.2.below (hg1.below (Below.refl _ _) hBw (fun g hg => (HE.out.2.1.lt g hg).1)))
          have hz1 := hg1.1.size
          have hq3 : q < 32 ^ (7 - (ds ++ [dd]).length) := by
            rw [List.length_append, show 7 - (ds.length + [dd].length) = m from by have := HM.out; simp; omega, HQ.out.2]
            have := HU.out
            rw [Nat.pow_succ] at this
            omega
          have hl3 : (ds ++ [dd]).length ≤ 6 := by rw [List.length_append]; have := HM.out; simp; omega
          clear ho1 hg1 hn1 e1' e2' e3' cV
          go_roundw
          case rel => exact ⟨v', ds ++ [dd], q, rfl, rfl, hq0, hq3, hl3, by omega, HZ⟩
          case measure => simp [intOf]; omega
end Go.Proofs.YtfbeeekakfllpaaDoor
