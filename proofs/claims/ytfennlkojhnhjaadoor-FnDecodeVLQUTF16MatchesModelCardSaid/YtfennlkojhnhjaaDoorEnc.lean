/-
  The walks of encodeVLQ and of small functions beside it (zzCopyBytes, zzB64Index, zzHasPrefix). No statement of the seat is proved here.
-/
import Derived.Test.YtfennlkojhnhjaaDoorRows
import Derived.WalkKit
import Derived.ProofKit
import Derived.WalkSpells
import Derived.WalkLawsBesides
import Derived.LoopTactic
import Derived.RegionTactic
import Derived.ChangeAlike
import Derived.BigQuiet
import Derived.Deep.QuietTactic
import Derived.OwnWalk
import Derived.WalkSmall
import Derived.Lib.Quote
import Derived.Laws.BitsAllLaws
import Derived.Test.YtfennlkojhnhjaaDoorOwn
import Derived.Test.YtfennlkojhnhjaaDoorVlq
import Derived.Test.YtfennlkojhnhjaaDoorBits
namespace Go.Proofs.YtfennlkojhnhjaaDoor
open Go.RowKit
theorem copyB_info : (Tryd.prog.info? 5).map (fun i => (i.zero, i.size, i.bytes)) = some (some (.int .u8 0), 1, 1) := by kernel_rfl
theorem copyB_any (ao : Option Addr) (cap : Nat) (zs : List Int) (w : World) (hin : In .u8 w ao zs) (hl : zs.length ≤ 1048576) :
    Calls Tryd.prog 15 #[.slice ao zs.length cap] w (Owned .u8 5 w zs) := by
  have hnil := fun (w : World) => Lib.run_eql_slice_nil (P := Tryd.prog) w 31 5 ao zs.length cap 0 0 Tryd.underlying31
  rcases ao with _ | x
  · have hz : zs = [] := by
      rcases hin with h | ⟨b, off, h, _⟩
      · exact h
      · cases h
    subst hz
    clear hin hl
    simp only [List.length_nil, Option.isNone_none] at hnil
    go_enter Tryd.func15, Tryd.ntmps15
    go_wp2
    go_ret
    exact ⟨_, rfl, Own.nil _ _ _ _, Below.refl _ _⟩
  · have HI := Lib.hid hin
    clear hin
    go_enter Tryd.func15, Tryd.ntmps15
    go_wp2_with (at_make; refine wpList_make_ints _ rfl _ _ 31 rfl 5 .u8 1 Tryd.underlying31 copyB_info zs.length rfl rfl (by omega) (by unfold maxLen; omega) ?_; intro w1 hb hgr)
    have hb1 : Below w.heap.size w w1 := (Below.refl _ w).grown hgr (Nat.le_refl _) (fun k h => by cases h)
    have HB := Lib.hid (And.intro hb hb1)
    clear hb hgr hb1
    go_loopw [4] (fun i wr => ∃ k : Nat, k ≤ zs.length ∧ i = .int .i64 k ∧ Blk wr w.heap.size 5 (ints .u8 (cpy zs k)) ∧ Below w.heap.size w wr) (fun i _ => zs.length - (intOf i).toNat)
    case atStart => exact ⟨0, Nat.zero_le _, rfl, by rw [cpy_zero]; exact HB.out.1, HB.out.2⟩
    case round =>
      obtain ⟨k, hk, rfl, hB, hbel⟩ := hrel
      rcases (show k = zs.length ∨ k < zs.length by omega) with rfl | hlt
      · rw [cpy_end] at hB
        have HF := Lib.hid (And.intro hB hbel)
        clear hB hbel
        go_wp2
        go_ret
        exact ⟨_, rfl, Own.of_blk HF.out.1 (Nat.le_refl _) (by unfold maxLen; omega), HF.out.2⟩
      · obtain ⟨b, off, hx, hblt, hc⟩ := HI.out.at hlt
        cases hx
        have hc' := (hbel.cell (p := ⟨b, off + k, none⟩) hblt).trans hc
        have hcl := cpy_length zs k hk
        have hs := hB.int (i := k) (by omega)
        have hf := hB.free k
        have hB2 := hB.put k (nth zs k)
        rw [cpy_step zs k hlt] at hB2
        have HN := Lib.hid (And.intro hB2 (hbel.setCell (p := ⟨w.heap.size, k, none⟩) (Nat.le_refl _) (.int .u8 (nth zs k))))
        clear hB hbel hB2 hc hcl
        go_wp2
        go_roundw
        case rel => exact ⟨k + 1, by omega, by go_num, HN.out.1, HN.out.2⟩
        case measure => simp [intOf]; omega

/-- the alphabet lies in the variable (its block and the variable's own below B) -/
def Tab (w : World) (B : Nat) : Prop := 0 < B ∧ ∃ R o c, R < B ∧ w.cell? ⟨0, 0, none⟩ = some (.slice (some ⟨R, o, none⟩) 64 c) ∧ ∀ j, j < 64 → w.cell? ⟨R, o + j, none⟩ = some (.int .u8 (b64at j : Nat))
theorem Tab.below {w w' : World} {B : Nat} (h : Tab w B) (hb : Below B w w') : Tab w' B := by
  obtain ⟨h0, R, o, c, hR, h1, h2⟩ := h
  exact ⟨h0, R, o, c, hR, (hb.cell (p := ⟨0, 0, none⟩) h0).trans h1, fun j hj => (hb.cell (p := ⟨R, o + j, none⟩) hR).trans (h2 j hj)⟩
theorem Tab.of {w : World} (h : Lib.TabSlice 0 .u8 b64 w) : Tab w w.heap.size := by
  obtain ⟨R, o, c, h1, h2⟩ := h
  exact ⟨World.block_lt_of_cell? w _ h1, R, o, c, World.block_lt_of_cell? w _ (h2 0 (by decide)), h1, fun j hj => h2 j hj⟩
def vlq (z : Int) : Nat := if z < 0 then 2 * (-z).toNat + 1 else 2 * z.toNat
/-- the digits of z as bytes -/
def enc (z : Int) : List Int := (dgs 7 (vlq z)).map fun d => ((b64at d : Nat) : Int)
def IsEnc (B : Nat) (v : Value) (xs : List Int) (z : Int) (w : World) (e : Ending) (w' : World) : Prop := ∃ v', e = .returned v' ∧ Own .u8 5 w' B v' (xs ++ enc z) ∧ Gr w v w' v' ∧ v' ≠ .slice none 0 0
def EncRel (B : Nat) (v : Value) (xs : List Int) (V : Nat) (w : World) (vv : Value) (ds : List Nat) (u : Nat) (wr : World) : Prop :=
  ds ++ dgs (7 - ds.length) u = dgs 7 V ∧ Own .u8 5 wr B vv (xs ++ ds.map fun d => ((b64at d : Nat) : Int)) ∧ Gr w v wr vv ∧ Tab wr B
set_option maxHeartbeats 1000000 in
theorem enc_any (B : Nat) (v : Value) (xs : List Int) (z : Int) (w : World) (ht : Tab w B) (hB : B ≤ w.heap.size) (hown : Own .u8 5 w B v xs) (hz0 : -1073741823 ≤ z) (hz1 : z ≤ 1073741823) (hl : xs.length ≤ 1073741824) :
    Calls Tryd.prog 46 #[v, .int .i64 z] w (IsEnc B v xs z w) := by
  have HT := Lib.hid ht
  have HO := Lib.hid hown
  obtain ⟨V, hV⟩ : ∃ V, V = vlq z := ⟨_, rfl⟩
  have HV := Lib.hid hV
  have hVb : V < 2147483648 := by rw [hV]; unfold vlq; split <;> omega
  clear ht hown
  have hcase : (z < 0 ∧ bits .or .i64 (-z * 2) 1 = (V : Int)) ∨ (0 ≤ z ∧ z * 2 = (V : Int)) := by
    by_cases hz : z < 0
    · left
      refine ⟨hz, ?_⟩
      have := or1 (-z).toNat (by omega)
      rw [show ((2 * (-z).toNat : Nat) : Int) = -z * 2 from by omega] at this
      rw [this, hV, vlq, if_pos hz]
    · right
      refine ⟨by omega, ?_⟩
      rw [hV, vlq, if_neg hz]
      omega
  clear hV
  rcases (show V < 32 ∨ 32 ≤ V by omega) with hs | hs
  · have e1 : bits .and .i64 (V : Int) 31 = (V : Int) := by rw [and31 V (by omega), Nat.mod_eq_of_lt hs]
    have e2 : ((V : Int) / 32 == 0) = true := by simp; omega
    obtain ⟨h0, R, o, c, hR, c0, cT⟩ := HT.out
    have cV := cT V (by omega)
    clear cT
    have i0 : (0 : Int) ≤ (V : Int) := by omega
    have i1 : (V : Int) < 64 := by omega
    rcases hcase with ⟨hz, eV⟩ | ⟨hz, eV⟩
    all_goals
      go_enter Tryd.func46, Tryd.ntmps46
      go_wp2_with (at_builtin; refine wpList_push w rfl (.tmp 21) (.tmp 26) 31 rfl B 5 .u8 1 Tryd.underlying31 copyB_info v xs _ rfl HO.out rfl (by unfold maxLen; omega) (by omega) hB ?_; intro v' w1 ho1 hg1 hn1)
      go_ret
      refine ⟨_, rfl, ?_, hg1, hn1⟩
      have : enc z = [((b64at V : Nat) : Int)] := by
        unfold enc; rw [← HV.out, dgs, if_pos hs]; rfl
      rw [this]; exact ho1
  · have e2 : ((V : Int) / 32 == 0) = false := by simp; omega
    rcases hcase with ⟨hz, eV⟩ | ⟨hz, eV⟩
    all_goals
      go_enter Tryd.func46, Tryd.ntmps46
      go_wp2_with fail
      go_loopw [0, 5] (fun x y wr => ∃ (vv : Value) (ds : List Nat) (u : Nat), vv = x ∧ y = .int .i64 u ∧ 0 < u ∧ u < 32 ^ (7 - ds.length) ∧ ds.length ≤ 6 ∧ B ≤ wr.heap.size ∧ Hid (EncRel B v xs V w vv ds u wr)) (fun _ y _ => (intOf y).toNat)
      case atStart => exact ⟨v, [], V, rfl, rfl, by omega, by simp; omega, by simp, hB, Lib.hid ⟨rfl, by simpa using HO.out, Gr.refl _ _, HT.out⟩⟩
      case round =>
        obtain ⟨vv, ds, u, rfl, rfl, hu0, hu1, hd, hBw, HE⟩ := hrel
        obtain ⟨m, hm⟩ : ∃ m, 7 - ds.length = m + 1 := ⟨6 - ds.length, by omega⟩
        have HU := Lib.hid (hm ▸ hu1 : u < 32 ^ (m + 1))
        have hub : u < 34359738368 := by
          have h1 : (32 : Nat) ^ (m + 1) ≤ 32 ^ 7 := Nat.pow_le_pow_right (by decide) (by omega)
          have h2 := HU.out
          have h3 : (32 : Nat) ^ 7 = 34359738368 := by decide
          omega
        have HM := Lib.hid hm
        obtain ⟨h0, R, o, c, hR, c0, cT⟩ := HE.out.2.2.2
        obtain ⟨ys, hys⟩ : ∃ ys, ys = xs ++ ds.map fun d => ((b64at d : Nat) : Int) := ⟨_, rfl⟩
        have HOY : Hid (Own .u8 5 wr B vv ys) := Lib.hid (hys ▸ HE.out.2.1)
        have HY := Lib.hid hys
        have hlen : ys.length ≤ 1073741830 := by rw [hys]; simp; omega
        clear hys
        clear hu1 hm
        rcases (show u < 32 ∨ 32 ≤ u by omega) with hu | hu
        · have e1' : bits .and .i64 (u : Int) 31 = (u : Int) := by rw [and31 u (by omega), Nat.mod_eq_of_lt hu]
          have e2' : (u : Int) / 32 = 0 := by omega
          have cV := cT u (by omega)
          have i0 : (0 : Int) ≤ (u : Int) := by omega
          have i1 : (u : Int) < 64 := by omega
          clear cT
          go_wp2_with (at_builtin; refine wpList_push wr rfl (.tmp 37) (.tmp 42) 31 rfl B 5 .u8 1 Tryd.underlying31 copyB_info vv ys _ rfl HOY.out rfl (by unfold maxLen; omega) (by omega) hBw ?_; intro v' w1 ho1 hg1 hn1)
          go_ret
          refine ⟨_, rfl, ?_, HE.out.2.2.1.trans hg1, hn1⟩
          have : enc z = (ds.map fun d => ((b64at d : Nat) : Int)) ++ [((b64at u : Nat) : Int)] := by
            unfold enc; rw [← HV.out, ← HE.out.1, HM.out, dgs, if_pos hu]; simp
          rw [this, ← List.append_assoc, ← HY.out]; exact ho1
        · obtain ⟨d0, hd0⟩ : ∃ d0, d0 = u % 32 := ⟨_, rfl⟩
          obtain ⟨dd, hdd⟩ : ∃ dd, dd = u % 32 + 32 := ⟨_, rfl⟩
          obtain ⟨q, hq⟩ : ∃ q, q = u / 32 := ⟨_, rfl⟩
          have e1' : bits .and .i64 (u : Int) 31 = (d0 : Int) := by rw [and31 u (by omega), hd0]
          have e2' : (u : Int) / 32 = (q : Int) := by omega
          have e3' : bits .or .i64 (d0 : Int) 32 = (dd : Int) := by rw [or32 d0 (by omega), hdd, hd0]
          have hq1 : ((q : Int) != 0) = true := by simp; omega
          have hq2 : ((q : Int) == 0) = false := by simp; omega
          have cV := cT dd (by omega)
          have i0 : (0 : Int) ≤ (dd : Int) := by omega
          have i1 : (dd : Int) < 64 := by omega
          have hqu : q < u := by omega
          have hq0 : 0 < q := by omega
          have HQ : Hid (dd = u % 32 + 32 ∧ q = u / 32) := Lib.hid ⟨hdd, hq⟩
          have hm1 : 1 ≤ m := by
            rcases Nat.eq_zero_or_pos m with rfl | h
            · have := HU.out; simp at this; omega
            · exact h
          clear cT hd0 hdd hq
          go_wp2_with (at_builtin; refine wpList_push wr rfl (.tmp 37) (.tmp 42) 31 rfl B 5 .u8 1 Tryd.underlying31 copyB_info vv ys _ rfl HOY.out rfl (by unfold maxLen; omega) (by omega) hBw ?_; intro v' w1 ho1 hg1 hn1)
          have HZ : Hid (EncRel B v xs V w v' (ds ++ [dd]) q w1) := Lib.hid (by
            refine ⟨?_, ?_, HE.out.2.2.1.trans hg1, ?_⟩
            · rw [← HE.out.1, HM.out, dgs, if_neg (by omega), ← HQ.out.1, ← HQ.out.2, List.append_assoc, List.length_append, show 7 - (ds.length + [dd].length) = m from by have := HM.out; simp; omega]
              rfl
            · rw [List.map_append, ← List.append_assoc, ← HY.out]; exact ho1
            · exact HE.out.2.2.2.below (hg1.below (Below.refl _ _) hBw (fun g hg => (HE.out.2.1.lt g hg).1)))
          have hz1 := hg1.1.size
          have hq3 : q < 32 ^ (7 - (ds ++ [dd]).length) := by
            rw [List.length_append, show 7 - (ds.length + [dd].length) = m from by have := HM.out; simp; omega, HQ.out.2]
            have := HU.out
            rw [Nat.pow_succ] at this
            omega
          have hl3 : (ds ++ [dd]).length ≤ 6 := by rw [List.length_append]; have := HM.out; simp; omega
          clear ho1 hg1 hn1 e1' e2' e3' cV
          go_roundw
          case rel => exact ⟨v', ds ++ [dd], q, rfl, rfl, hq0, hq3, hl3, by omega, HZ⟩
          case measure => simp [intOf]; omega
theorem zzenc_any (B : Nat) (v : Value) (xs : List Int) (z : Int) (w : World) (ht : Tab w B) (hB : B ≤ w.heap.size) (hown : Own .u8 5 w B v xs) (hz0 : -1073741823 ≤ z) (hz1 : z ≤ 1073741823) (hl : xs.length ≤ 1073741824) :
    Calls Tryd.prog 16 #[v, .int .i64 z] w (IsEnc B v xs z w) := by
  have HT := Lib.hid ht
  have HO := Lib.hid hown
  clear ht hown
  go_enter Tryd.func16, Tryd.ntmps16
  go_wp2_with fail
  refine (enc_any B v xs z w HT.out hB HO.out hz0 hz1 hl).mono ?_
  rintro e w1 ⟨v', rfl, h1, h2, h3⟩
  have HR := Lib.hid (And.intro h1 (And.intro h2 h3))
  clear h1 h2 h3
  go_wp2
  go_ret
  exact ⟨_, rfl, HR.out⟩
theorem bi_any (c : Int) (w : World) (h0 : 0 ≤ c) (h1 : c ≤ 255) : Calls Tryd.prog 18 #[.int .u8 c] w fun e w' => e = .returned (.int .i64 (bi c)) ∧ w = w' := by
  obtain ⟨r, hr⟩ : ∃ r, r = bi c := ⟨_, rfl⟩
  rw [← hr]
  have HR := Lib.hid hr
  clear hr
  by_cases k1 : 65 ≤ c ∧ c ≤ 90
  · obtain ⟨k1, k2⟩ := k1
    go_enter Tryd.func18, Tryd.ntmps18
    go_wp2
    go_ret
    exact ⟨ret_int (by rw [HR.out, bi, if_pos ⟨k1, k2⟩]), rfl⟩
  by_cases k2 : 97 ≤ c ∧ c ≤ 122
  · obtain ⟨k3, k4⟩ := k2
    have d1 : ¬ c ≤ 90 := by omega
    go_enter Tryd.func18, Tryd.ntmps18
    go_wp2
    go_ret
    exact ⟨ret_int (by rw [HR.out, bi, if_neg k1, if_pos ⟨k3, k4⟩]), rfl⟩
  by_cases k3 : 48 ≤ c ∧ c ≤ 57
  · obtain ⟨k4, k5⟩ := k3
    have d1 : ¬ 65 ≤ c := by omega
    have d2 : ¬ 97 ≤ c := by omega
    go_enter Tryd.func18, Tryd.ntmps18
    go_wp2
    go_ret
    exact ⟨ret_int (by rw [HR.out, bi, if_neg k1, if_neg k2, if_pos ⟨k4, k5⟩]), rfl⟩
  by_cases k4 : c = 43
  · subst k4
    go_enter Tryd.func18, Tryd.ntmps18
    go_wp2
    go_ret
    exact ⟨ret_int (by rw [HR.out]; rfl), rfl⟩
  by_cases k5 : c = 47
  · subst k5
    go_enter Tryd.func18, Tryd.ntmps18
    go_wp2
    go_ret
    exact ⟨ret_int (by rw [HR.out]; rfl), rfl⟩
  have b1 : (c == 43) = false := by simpa using k4
  have b2 : (c == 47) = false := by simpa using k5
  have e : HR.out = HR.out := rfl
  have HB : Hid (bi c = -1) := Lib.hid (by rw [bi, if_neg k1, if_neg k2, if_neg k3, if_neg k4, if_neg k5])
  have hcase : c < 48 ∨ (57 < c ∧ c < 65) ∨ (90 < c ∧ c < 97) ∨ 122 < c := by omega
  clear k1 k2 k3 k4 k5 e
  rcases hcase with k | ⟨k, k'⟩ | ⟨k, k'⟩ | k
  all_goals
    go_enter Tryd.func18, Tryd.ntmps18
    go_wp2
    go_ret
    exact ⟨ret_int (by rw [HR.out, HB.out]), rfl⟩
/-- zzHasPrefix where the first list begins with the second -/
theorem pre_any (a0 a1 : Option Addr) (c0 c1 n : Nat) (xs ys zs : List Int) (w : World) (hE : zs = xs ++ ys) (hn : zs.length = n) (h0 : In .u8 w a0 zs) (h1 : In .u8 w a1 xs) (hl : zs.length ≤ 1073741831) :
    Calls Tryd.prog 17 #[.slice a0 n c0, .slice a1 xs.length c1] w fun e w' => e = .returned (.bool true) ∧ Below w.heap.size w w' := by
  subst hn
  have hle : xs.length ≤ zs.length := by rw [hE]; simp
  have HE := Lib.hid hE
  have HI := Lib.hid (And.intro h0 h1)
  have d0 : decide ((zs.length : Int) < (xs.length : Int)) = false := by simp; omega
  have d1 : decide (zs.length < xs.length) = false := by simp; omega
  clear hE h0 h1
  go_enter Tryd.func17, Tryd.ntmps17
  go_wp2
  go_loopw [5] (fun i wr => ∃ k : Nat, k ≤ xs.length ∧ i = .int .i64 k ∧ Below w.heap.size w wr) (fun i _ => xs.length - (intOf i).toNat)
  case atStart => exact ⟨0, Nat.zero_le _, rfl, Below.refl _ _⟩
  case round =>
    obtain ⟨k, hk, rfl, hb⟩ := hrel
    have HB := Lib.hid hb
    rcases (show k = xs.length ∨ k < xs.length by omega) with rfl | hlt
    · clear hb
      go_wp2
      go_ret
      exact ⟨rfl, HB.out⟩
    · obtain ⟨p0, o0, x0, l0, q0⟩ := HI.out.1.at (i := k) (by omega)
      obtain ⟨p1, o1, x1, l1, q1⟩ := HI.out.2.at hlt
      subst x0 x1
      have r0 := (hb.cell (p := ⟨p0, o0 + k, none⟩) l0).trans q0
      have r1 := (hb.cell (p := ⟨p1, o1 + k, none⟩) l1).trans q1
      have en : nth zs k = nth xs k := by rw [HE.out]; simp [nth, List.getElem?_append_left hlt]
      rw [en] at r0
      have i0 : (0 : Int) ≤ (k : Int) := by omega
      have i1 : (k : Int) < (xs.length : Int) := by omega
      have i2 : (k : Int) < (zs.length : Int) := by omega
      clear hb q0 q1 en
      go_wp2
      go_quiet (fail)
      go_wp2
      go_roundw
      case rel => exact ⟨k + 1, by omega, by go_num, below_drewN HB.out _⟩
      case measure => simp [intOf]; omega
end Go.Proofs.YtfennlkojhnhjaaDoor
