/-
  The walks of AdvanceBytes and AdvanceString against one plain function of the bytes. No statement of the seat is proved here.
-/
import Derived.Test.YtbicjmaogbaldaaDoorRows
import Derived.WalkKit
import Derived.ProofKit
import Derived.WalkSpells
import Derived.WalkLawsBesides
import Derived.LoopTactic
import Derived.RegionTactic
import Derived.ChangeAlike
import Derived.BigQuiet
import Derived.Deep.QuietTactic
import Derived.OwnWalk
import Derived.WalkSmall
import Derived.Laws.RangeAny
import Derived.Lib.OthersKept
import Derived.Test.YtbicjmaogbaldaaDoorOwnStr
import Derived.Test.YtbicjmaogbaldaaDoorShelf
namespace Go.Proofs.YtbicjmaogbaldaaDoor
open Go.RowKit
set_option linter.unusedVariables false
theorem copyB_info : (Tryd.prog.info? 5).map (fun i => (i.zero, i.size, i.bytes)) = some (some (.int .u8 0), 1, 1) := by kernel_rfl
theorem copyB_any (ao : Option Addr) (cap : Nat) (zs : List Int) (w : World) (hin : In .u8 w ao zs) (hl : zs.length ≤ 1048576) :
    Calls Tryd.prog 5 #[.slice ao zs.length cap] w (Owned .u8 5 w zs) := by
  have hnil := fun (w : World) => Lib.run_eql_slice_nil (P := Tryd.prog) w 22 5 ao zs.length cap 0 0 Tryd.underlying22
  rcases ao with _ | x
  · have hz : zs = [] := by
      rcases hin with h | ⟨b, off, h, _⟩
      · exact h
      · cases h
    subst hz
    clear hin hl
    simp only [List.length_nil, Option.isNone_none] at hnil
    go_enter Tryd.func5, Tryd.ntmps5
    go_wp2
    go_ret
    exact ⟨_, rfl, Own.nil _ _ _ _, Below.refl _ _⟩
  · have HI := Lib.hid hin
    clear hin
    go_enter Tryd.func5, Tryd.ntmps5
    go_wp2_with (at_make; refine wpList_make_ints _ rfl _ _ 22 rfl 5 .u8 1 Tryd.underlying22 copyB_info zs.length rfl rfl (by omega) (by unfold maxLen; omega) ?_; intro w1 hb hgr)
    have hb1 : Below w.heap.size w w1 := (Below.refl _ w).grown hgr (Nat.le_refl _) (fun k h => by cases h)
    have HB := Lib.hid (And.intro hb hb1)
    clear hb hgr hb1
    go_loopw [4] (fun i wr => ∃ k : Nat, k ≤ zs.length ∧ i = .int .i64 k ∧ Blk wr w.heap.size 5 (ints .u8 (cpy zs k)) ∧ Below w.heap.size w wr) (fun i _ => zs.length - (intOf i).toNat)
    case atStart => exact ⟨0, Nat.zero_le _, rfl, by rw [cpy_zero]; exact HB.out.1, HB.out.2⟩
    case round =>
      obtain ⟨k, hk, rfl, hB, hbel⟩ := hrel
      rcases (show k = zs.length ∨ k < zs.length by omega) with rfl | hlt
      · rw [cpy_end] at hB
        have HF := Lib.hid (And.intro hB hbel)
        clear hB hbel
        go_wp2
        go_ret
        exact ⟨_, rfl, Own.of_blk HF.out.1 (Nat.le_refl _) (by unfold maxLen; omega), HF.out.2⟩
      · obtain ⟨b, off, hx, hblt, hc⟩ := HI.out.at hlt
        cases hx
        have hc' := (hbel.cell (p := ⟨b, off + k, none⟩) hblt).trans hc
        have hcl := cpy_length zs k hk
        have hs := hB.int (i := k) (by omega)
        have hf := hB.free k
        have hB2 := hB.put k (nth zs k)
        rw [cpy_step zs k hlt] at hB2
        have HN := Lib.hid (And.intro hB2 (hbel.setCell (p := ⟨w.heap.size, k, none⟩) (Nat.le_refl _) (.int .u8 (nth zs k))))
        clear hB hbel hB2 hc hcl
        go_wp2
        go_roundw
        case rel => exact ⟨k + 1, by omega, by go_num, HN.out.1, HN.out.2⟩
        case measure => simp [intOf]; omega

/-- lines and columns behind one more code point -/
def step1 (s : ByteArray) (pos : Nat) (L C : Int) : Int × Int :=
  if (Utf8.decode s pos).1 = 13 ∨ (Utf8.decode s pos).1 = 10 ∨ (Utf8.decode s pos).1 = 8232 ∨ (Utf8.decode s pos).1 = 8233 then
    (if (Utf8.decode s pos).1 = 13 ∧ pos + 1 < s.size ∧ (s.get! (pos + 1)).toNat = 10 then (L, wrap64 (C + 1)) else (wrap64 (L + 1), 0))
  else if (Utf8.decode s pos).1 ≤ 65535 then (L, wrap64 (C + 1)) else (L, wrap64 (C + 2))
def adv (s : ByteArray) : Nat → Nat → Int → Int → Int × Int
  | 0, _, L, C => (L, C)
  | f + 1, pos, L, C => if pos < s.size then adv s f (pos + (Utf8.decode s pos).2) (step1 s pos L C).1 (step1 s pos L C).2 else (L, C)
theorem adv_end (s : ByteArray) (f pos : Nat) (L C : Int) (h : s.size ≤ pos) : adv s f pos L C = (L, C) := by
  cases f with
  | zero => rfl
  | succ f => rw [adv, if_neg (by omega)]
theorem adv_step (s : ByteArray) (f pos : Nat) (L C : Int) (h : pos < s.size) : adv s (f + 1) pos L C = adv s f (pos + (Utf8.decode s pos).2) (step1 s pos L C).1 (step1 s pos L C).2 := by rw [adv, if_pos h]
/-- the six ways through one step, as the code takes them -/
theorem step_ways (s : ByteArray) (pos : Nat) (h : pos < s.size) (c W : Nat) (hc : (Utf8.decode s pos).1 = c) (hW : (Utf8.decode s pos).2 = W) (L C : Int) :
    (c = 13 ∧ W = 1 ∧ pos + 1 < s.size ∧ (s.get! (pos + 1)).toNat = 10 ∧ Hid (step1 s pos L C = (L, wrap64 (C + 1)))) ∨
    (c = 13 ∧ W = 1 ∧ pos + 1 < s.size ∧ (s.get! (pos + 1)).toNat ≠ 10 ∧ Hid (step1 s pos L C = (wrap64 (L + 1), 0))) ∨
    (c = 13 ∧ W = 1 ∧ s.size ≤ pos + 1 ∧ Hid (step1 s pos L C = (wrap64 (L + 1), 0))) ∨
    (c ≠ 13 ∧ (c = 10 ∨ c = 8232 ∨ c = 8233) ∧ Hid (step1 s pos L C = (wrap64 (L + 1), 0))) ∨
    (c ≠ 13 ∧ c ≠ 10 ∧ c ≠ 8232 ∧ c ≠ 8233 ∧ c ≤ 65535 ∧ Hid (step1 s pos L C = (L, wrap64 (C + 1)))) ∨
    (65535 < c ∧ Hid (step1 s pos L C = (L, wrap64 (C + 2)))) := by
  have hst : step1 s pos L C = if c = 13 ∨ c = 10 ∨ c = 8232 ∨ c = 8233 then (if c = 13 ∧ pos + 1 < s.size ∧ (s.get! (pos + 1)).toNat = 10 then (L, wrap64 (C + 1)) else (wrap64 (L + 1), 0)) else if c ≤ 65535 then (L, wrap64 (C + 1)) else (L, wrap64 (C + 2)) := by
    unfold step1; rw [hc]
  by_cases h13 : c = 13
  · have hW1 : W = 1 := by
      by_cases ha : (s[pos]'h).toNat < 128
      · rw [decode_ascii s pos h ha] at hW; exact hW.symm
      · have := (decode_high s pos h (by omega)).1; omega
    by_cases h1 : pos + 1 < s.size
    · by_cases h2 : (s.get! (pos + 1)).toNat = 10
      · exact .inl ⟨h13, hW1, h1, h2, Lib.hid (by rw [hst, if_pos (.inl h13), if_pos ⟨h13, h1, h2⟩])⟩
      · exact .inr (.inl ⟨h13, hW1, h1, h2, Lib.hid (by rw [hst, if_pos (.inl h13), if_neg (fun c => h2 c.2.2)])⟩)
    · exact .inr (.inr (.inl ⟨h13, hW1, by omega, Lib.hid (by rw [hst, if_pos (.inl h13), if_neg (fun c => h1 c.2.1)])⟩))
  · by_cases hb : c = 10 ∨ c = 8232 ∨ c = 8233
    · exact .inr (.inr (.inr (.inl ⟨h13, hb, Lib.hid (by rw [hst, if_pos (.inr hb), if_neg (fun c => h13 c.1)])⟩)))
    · have hb' : ¬ (c = 13 ∨ c = 10 ∨ c = 8232 ∨ c = 8233) := fun x => x.elim h13 hb
      by_cases hl : c ≤ 65535
      · exact .inr (.inr (.inr (.inr (.inl ⟨h13, fun x => hb (.inl x), fun x => hb (.inr (.inl x)), fun x => hb (.inr (.inr x)), hl, Lib.hid (by rw [hst, if_neg hb', if_pos hl])⟩))))
      · exact .inr (.inr (.inr (.inr (.inr ⟨by omega, Lib.hid (by rw [hst, if_neg hb', if_neg hl])⟩))))
theorem width_le (s : ByteArray) (pos : Nat) (h : pos < s.size) : 1 ≤ (Utf8.decode s pos).2 ∧ pos + (Utf8.decode s pos).2 ≤ s.size := by
  refine ⟨width_pos s pos h, ?_⟩
  by_cases ha : (s[pos]'h).toNat < 128
  · rw [decode_ascii s pos h ha]; show pos + 1 ≤ s.size; omega
  · exact (high_bytes s pos h (by omega)).1
theorem ext_get! (s : ByteArray) (pos i : Nat) : (s.extract pos s.size).get! i = s.get! (pos + i) := by
  have hz : (s.extract pos s.size).size = s.size - pos := by simp
  by_cases h : i < s.size - pos
  · rw [get!_at _ i (by rw [hz]; exact h), get!_at s (pos + i) (by omega)]
    simp [ByteArray.getElem_extract]
  · rw [get!_out _ i (by rw [hz]; omega), get!_out s (pos + i) (by omega)]
theorem dec_ext (s : ByteArray) (pos : Nat) (h : pos < s.size) : Lib.decodeGo (s.extract pos s.size) = Utf8.decode s pos := by
  have hz : (s.extract pos s.size).size = s.size - pos := by simp
  unfold Lib.decodeGo
  rw [if_neg (by omega), Lib.decode_at, Lib.decode_at, hz, ext_get!, ext_get!, ext_get!, ext_get!]
  simp only [Nat.sub_zero, Nat.add_zero, Nat.zero_add]
theorem tabs_below {g3 g4 B : Nat} {w w' : World} (h : Lib.Utf8Tabs g3 g4 w) (hb : Below B w w') (h3 : g3 < B) (h4 : g4 < B) : Lib.Utf8Tabs g3 g4 w' :=
  ⟨fun c hc => (hb.cell (p := ⟨g3, c, none⟩) h3).trans (h.1 c hc), fun i hi => ⟨(hb.cell (p := ⟨g4, 2 * i, none⟩) h4).trans (h.2 i hi).1, (hb.cell (p := ⟨g4, 2 * i + 1, none⟩) h4).trans (h.2 i hi).2⟩⟩
theorem dr_any (s : ByteArray) (g pos m c x W : Nat) (w : World) (hm : pos + m = s.size) (h0 : 0 < m) (hx : (Utf8.decode s pos).1 = x) (hW : (Utf8.decode s pos).2 = W) (ht : Lib.Utf8Tabs 0 1 w) (hc : ∀ i, i < s.size → w.cell? ⟨g, i, none⟩ = some (.int .u8 (s.get! i).toNat)) :
    Calls Tryd.prog 8 #[.slice (some ⟨g, pos, none⟩) m c] w fun e w' => e = .returned (.tuple #[.int .i32 x, .int .i64 W]) ∧ Below w.heap.size w w' := by
  have hz : (s.extract pos s.size).size = m := by simp; omega
  have := Tryd.utf8_DecodeRune (s.extract pos s.size) g pos c w ht (fun j hj => by rw [ext_get!, hc (pos + j) (by omega)])
  rw [hz, dec_ext s pos (by omega), hx, hW] at this
  exact this
def slen : Value → Nat
  | .slice _ n _ => n
  | _ => 0
/-- what the loop of AdvanceBytes knows -/
def BRel (s : ByteArray) (p : Nat) (C0 : Int) (F : Int × Int) (w : World) (pos : Nat) (L C : Int) (wr : World) : Prop :=
  ∃ f, Blk wr p 26 #[.int .i64 L, .int .i64 C0] ∧ Below p w wr ∧ adv s f pos L C = F ∧ s.size - pos ≤ f
theorem brel_next {s : ByteArray} {p : Nat} {C0 : Int} {F : Int × Int} {w : World} {pos W f' : Nat} {L C L' C' : Int} {w' : World} (hf : s.size - pos ≤ f' + 1) (hW : 1 ≤ W) (hD : adv s f' (pos + W) (step1 s pos L C).1 (step1 s pos L C).2 = F) (hst : step1 s pos L C = (L', C'))
    (hb : Blk w' p 26 #[.int .i64 L', .int .i64 C0]) (hbel : Below p w w') : BRel s p C0 F w (pos + W) L' C' w' := by
  rw [hst] at hD
  exact ⟨f', hb, hbel, hD, by omega⟩
set_option maxHeartbeats 4000000 in
theorem advB (p g cap : Nat) (s : ByteArray) (L0 C0 : Int) (a0 : Option Addr) (w : World) (hp : Blk w p 26 #[.int .i64 L0, .int .i64 C0]) (hc : ∀ i, i < s.size → w.cell? ⟨g, i, none⟩ = some (.int .u8 (s.get! i).toNat)) (hg : g < p) (ht : Lib.Utf8Tabs 0 1 w) (h1 : 1 < p) (hs : s.size ≤ 1048576)
    (ha : 0 < s.size → a0 = some ⟨g, 0, none⟩ ∧ s.size ≤ cap) :
    Calls Tryd.prog 6 #[.pointer (some ⟨p, 0, none⟩), .slice a0 s.size cap] w fun e w' => e = .returned (.tuple #[]) ∧ Blk w' p 26 #[.int .i64 (adv s s.size 0 L0 C0).1, .int .i64 (adv s s.size 0 L0 C0).2] ∧ Below p w w' := by
  obtain ⟨F, hF⟩ : ∃ F, F = adv s s.size 0 L0 C0 := ⟨_, rfl⟩
  rw [← hF]
  have HF := Lib.hid hF.symm
  have H := Lib.hid (And.intro hc ht)
  obtain ⟨c0, c1, cl⟩ := hp.two
  have HP := Lib.hid hp
  have HA := Lib.hid ha
  clear hF hc ht hp ha
  go_enter Tryd.func6, Tryd.ntmps6
  go_wp2
  go_loopw [1, 4] (fun v x wr => ∃ (pos m c : Nat) (L C : Int) (a : Option Addr), pos ≤ s.size ∧ m ≤ s.size ∧ v = .slice a m c ∧ x = .int .i64 C ∧ Hid (pos + m = s.size ∧ (0 < m → a = some ⟨g, pos, none⟩ ∧ m ≤ c) ∧ BRel s p C0 F w pos L C wr)) (fun v _ _ => slen v)
  case atStart => exact ⟨0, s.size, cap, L0, C0, a0, Nat.zero_le _, Nat.le_refl _, rfl, rfl, Lib.hid ⟨by omega, HA.out, s.size, HP.out, Below.refl _ _, HF.out, by omega⟩⟩
  case round =>
    obtain ⟨pos, m, c, L, C, a, hpos, hml, rfl, rfl, HR⟩ := hrel
    obtain ⟨f, hB, hbel, hadv, hf⟩ := HR.out.2.2
    obtain ⟨q0, q1, ql⟩ := hB.two
    have f0 := hB.free 0
    have f1 := hB.free 1
    have HB := Lib.hid (And.intro hB (And.intro hbel hadv))
    rcases Nat.eq_zero_or_pos m with rfl | hm
    · have HE := Lib.hid (show (L, C) = F by rw [← hadv]; exact (adv_end s f pos L C (by have := HR.out.1; omega)).symm)
      clear hB hbel hadv c0 c1
      go_wp2
      go_end0
      refine ⟨rfl, ?_, HB.out.2.1.setCell (Nat.le_refl _) _⟩
      rw [← HE.out]
      exact HB.out.1.set 1 (.int .i64 C)
    · obtain ⟨rfl, hmc⟩ := HR.out.2.1 hm
      have hlt : pos < s.size := by have := HR.out.1; omega
      obtain ⟨f', rfl⟩ : ∃ f', f = f' + 1 := ⟨f - 1, by omega⟩
      rw [adv_step s f' pos L C hlt] at hadv
      obtain ⟨hw1, hw2⟩ := width_le s pos hlt
      obtain ⟨x, hx⟩ : ∃ x, (Utf8.decode s pos).1 = x := ⟨_, rfl⟩
      obtain ⟨W, hW⟩ : ∃ W, (Utf8.decode s pos).2 = W := ⟨_, rfl⟩
      have HX := Lib.hid (And.intro hx hW)
      have hways := Lib.hid (step_ways s pos hlt x W hx hW L C)
      rw [hW] at hw1 hw2 hadv
      have HD := Lib.hid hadv
      have hWm : W ≤ m := by have := HR.out.1; omega
      clear hx hW hB hbel hadv c0 c1
      go_wp2_with fail
      refine (dr_any s g pos m c x W _ HR.out.1 hm HX.out.1 HX.out.2 (tabs_below H.out.2 HB.out.2.1 (by omega) h1) (fun i hi => (HB.out.2.1.cell (p := ⟨g, i, none⟩) hg).trans (H.out.1 i hi))).mono ?_
      rintro en w1 ⟨rfl, b1⟩
      have hb1 := HB.out.1.kept b1
      have H1 := Lib.hid (And.intro hb1 (below_then HB.out.2.1 b1 (by have := HB.out.2.1.size; omega)))
      obtain ⟨r0, r1, rl⟩ := hb1.two
      have g0 := hb1.free 0
      have g1 := hb1.free 1
      clear q0 q1 f0 f1 hb1 b1
      have hcm : m ≤ c := hmc
      have hpm : m ≤ s.size - pos := by have := HR.out.1; omega
      have hpm2 : s.size - pos ≤ m := by have := HR.out.1; omega
      rcases hways.out with ⟨rfl, rfl, k1, k2, Q⟩ | ⟨rfl, rfl, k1, k2, Q⟩ | ⟨rfl, rfl, k1, Q⟩ | ⟨k1, k2, Q⟩ | ⟨k1, k2, k3, k4, k5, Q⟩ | ⟨k1, Q⟩
      · have hcell := (H1.out.2.cell (p := ⟨g, pos + 1, none⟩) hg).trans (H.out.1 (pos + 1) k1)
        rw [k2] at hcell
        have hcw : ¬ c = 1 := by omega
        clear k2
        go_wp2
        go_roundw
        case rel => exact ⟨pos + 1, m - 1, c - 1, _, _, _, by omega, by omega, rfl, rfl, Lib.hid ⟨by have := HR.out.1; omega, fun h => by (first | exact ⟨rfl, by omega⟩ | (exfalso; omega)), brel_next hf (by omega) HD.out Q.out H1.out.1 H1.out.2⟩⟩
        case measure => simp [slen]; omega
      · have hcell := (H1.out.2.cell (p := ⟨g, pos + 1, none⟩) hg).trans (H.out.1 (pos + 1) k1)
        have hcw : ¬ c = 1 := by omega
        have k2' : (((s.get! (pos + 1)).toNat : Int) == 10) = false := by simp; omega
        clear k2
        go_wp2
        go_roundw
        case rel => exact ⟨pos + 1, m - 1, c - 1, _, _, _, by omega, by omega, rfl, rfl, Lib.hid ⟨by have := HR.out.1; omega, fun h => by (first | exact ⟨rfl, by omega⟩ | (exfalso; omega)), brel_next hf (by omega) HD.out Q.out (H1.out.1.set 0 (.int .i64 (wrap64 (L + 1)))) (H1.out.2.setCell (Nat.le_refl _) _)⟩⟩
        case measure => simp [slen]; omega
      · rcases (show c = 1 ∨ ¬ c = 1 by omega) with rfl | hcw
        · go_wp2
          go_roundw
          case rel => exact ⟨pos + 1, 0, 0, _, _, _, by omega, by omega, rfl, rfl, Lib.hid ⟨by have := HR.out.1; omega, fun h => absurd h (Nat.lt_irrefl 0), brel_next hf (by omega) HD.out Q.out (H1.out.1.set 0 (.int .i64 (wrap64 (L + 1)))) (H1.out.2.setCell (Nat.le_refl _) _)⟩⟩
          case measure => simp [slen]; omega
        · go_wp2
          go_roundw
          case rel => exact ⟨pos + 1, m - 1, c - 1, _, _, _, by omega, by omega, rfl, rfl, Lib.hid ⟨by have := HR.out.1; omega, fun h => by (first | exact ⟨rfl, by omega⟩ | (exfalso; omega)), brel_next hf (by omega) HD.out Q.out (H1.out.1.set 0 (.int .i64 (wrap64 (L + 1)))) (H1.out.2.setCell (Nat.le_refl _) _)⟩⟩
          case measure => simp [slen]; omega
      · have x1 : ((x : Int) == 13) = false := by simp; omega
        rcases (show c = W ∨ ¬ c = W by omega) with rfl | hcw
        · rcases k2 with rfl | rfl | rfl
          all_goals
            go_wp2
            go_roundw
            case rel => exact ⟨pos + c, 0, 0, _, _, _, by omega, by omega, rfl, rfl, Lib.hid ⟨by have := HR.out.1; omega, fun h => absurd h (Nat.lt_irrefl 0), brel_next hf (by omega) HD.out Q.out (H1.out.1.set 0 (.int .i64 (wrap64 (L + 1)))) (H1.out.2.setCell (Nat.le_refl _) _)⟩⟩
            case measure => simp [slen]; omega
        · rcases k2 with rfl | rfl | rfl
          all_goals
            go_wp2
            go_roundw
            case rel => exact ⟨pos + W, m - W, c - W, _, _, _, by omega, by omega, rfl, rfl, Lib.hid ⟨by have := HR.out.1; omega, fun h => by (first | exact ⟨rfl, by omega⟩ | (exfalso; omega)), brel_next hf (by omega) HD.out Q.out (H1.out.1.set 0 (.int .i64 (wrap64 (L + 1)))) (H1.out.2.setCell (Nat.le_refl _) _)⟩⟩
            case measure => simp [slen]; omega
      · have x1 : ((x : Int) == 13) = false := by simp; omega
        have x2 : ((x : Int) == 10) = false := by simp; omega
        have x3 : ((x : Int) == 8232) = false := by simp; omega
        have x4 : ((x : Int) == 8233) = false := by simp; omega
        rcases (show c = W ∨ ¬ c = W by omega) with rfl | hcw
        · go_wp2
          go_roundw
          case rel => exact ⟨pos + c, 0, 0, _, _, _, by omega, by omega, rfl, rfl, Lib.hid ⟨by have := HR.out.1; omega, fun h => absurd h (Nat.lt_irrefl 0), brel_next hf (by omega) HD.out Q.out H1.out.1 H1.out.2⟩⟩
          case measure => simp [slen]; omega
        · go_wp2
          go_roundw
          case rel => exact ⟨pos + W, m - W, c - W, _, _, _, by omega, by omega, rfl, rfl, Lib.hid ⟨by have := HR.out.1; omega, fun h => by (first | exact ⟨rfl, by omega⟩ | (exfalso; omega)), brel_next hf (by omega) HD.out Q.out H1.out.1 H1.out.2⟩⟩
          case measure => simp [slen]; omega
      · have x1 : ((x : Int) == 13) = false := by simp; omega
        have x2 : ((x : Int) == 10) = false := by simp; omega
        have x3 : ((x : Int) == 8232) = false := by simp; omega
        have x4 : ((x : Int) == 8233) = false := by simp; omega
        rcases (show c = W ∨ ¬ c = W by omega) with rfl | hcw
        · go_wp2
          go_roundw
          case rel => exact ⟨pos + c, 0, 0, _, _, _, by omega, by omega, rfl, rfl, Lib.hid ⟨by have := HR.out.1; omega, fun h => absurd h (Nat.lt_irrefl 0), brel_next hf (by omega) HD.out Q.out H1.out.1 H1.out.2⟩⟩
          case measure => simp [slen]; omega
        · go_wp2
          go_roundw
          case rel => exact ⟨pos + W, m - W, c - W, _, _, _, by omega, by omega, rfl, rfl, Lib.hid ⟨by have := HR.out.1; omega, fun h => by (first | exact ⟨rfl, by omega⟩ | (exfalso; omega)), brel_next hf (by omega) HD.out Q.out H1.out.1 H1.out.2⟩⟩
          case measure => simp [slen]; omega
set_option maxHeartbeats 4000000 in
theorem advS (p : Nat) (s : ByteArray) (L0 C0 : Int) (w : World) (hp : Blk w p 26 #[.int .i64 L0, .int .i64 C0]) (hs : s.size ≤ 1048576) :
    Calls Tryd.prog 7 #[.pointer (some ⟨p, 0, none⟩), .string s] w fun e w' => e = .returned (.tuple #[]) ∧ Blk w' p 26 #[.int .i64 (adv s s.size 0 L0 C0).1, .int .i64 (adv s s.size 0 L0 C0).2] ∧ Below p w w' := by
  obtain ⟨F, hF⟩ : ∃ F, F = adv s s.size 0 L0 C0 := ⟨_, rfl⟩
  rw [← hF]
  have HF := Lib.hid hF.symm
  obtain ⟨c0, c1, cl⟩ := hp.two
  have HP := Lib.hid hp
  clear hF hp
  have hpK : w.heap.size ≠ p := by omega
  go_enter Tryd.func7, Tryd.ntmps7
  go_wp2
  go_loopw [4] (fun x wr => ∃ (pos : Nat) (L C : Int), x = .int .i64 C ∧ pos ≤ s.size ∧ Hid (wr.heap[w.heap.size]? = some (.stringIter s pos) ∧ BRel s p C0 F w pos L C wr)) (fun _ wr => s.size + 1 - wr.iterPos w.heap.size)
  case atStart => exact ⟨0, L0, C0, rfl, Nat.zero_le _, Lib.hid ⟨by simp [World.iter_heap], s.size, HP.out.alloc (.stringIter s 0), (Below.refl _ _).alloc (Nat.le_of_lt cl) (.stringIter s 0), HF.out, by omega⟩⟩
  case round =>
    obtain ⟨pos, L, C, rfl, hpos, HR⟩ := hrel
    obtain ⟨f, hB, hbel, hadv, hf⟩ := HR.out.2
    rcases (show pos = s.size ∨ pos < s.size by omega) with rfl | hlt
    · obtain ⟨q0, q1, ql⟩ := hB.two
      have f0 := hB.free 0
      have f1 := hB.free 1
      have HB := Lib.hid (And.intro hB hbel)
      have HE := Lib.hid (show (L, C) = F by rw [← hadv]; exact (adv_end s f s.size L C (Nat.le_refl _)).symm)
      have hnx : ∀ ty, (Instr.next (.pointer (some ⟨w.heap.size, 0, none⟩)) true ty).run Tryd.prog wr = _ := fun ty => Lib.run_next_end_at wr w.heap.size s s.size ty HR.out.1 (Nat.lt_irrefl _)
      clear hB hbel hadv c0 c1
      go_wp2
      go_end0
      refine ⟨rfl, ?_, HB.out.2.setCell (Nat.le_refl _) _⟩
      rw [← HE.out]
      exact HB.out.1.set 1 (.int .i64 C)
    · obtain ⟨f', rfl⟩ : ∃ f', f = f' + 1 := ⟨f - 1, by omega⟩
      rw [adv_step s f' pos L C hlt] at hadv
      obtain ⟨hw1, hw2⟩ := width_le s pos hlt
      obtain ⟨x, hx⟩ : ∃ x, (Utf8.decode s pos).1 = x := ⟨_, rfl⟩
      obtain ⟨W, hW⟩ : ∃ W, (Utf8.decode s pos).2 = W := ⟨_, rfl⟩
      have hnx : ∀ ty, (Instr.next (.pointer (some ⟨w.heap.size, 0, none⟩)) true ty).run Tryd.prog wr = _ := fun ty => Lib.run_next_any_at wr w.heap.size s pos ty HR.out.1 hlt
      rw [hx, hW] at hnx
      have hways := Lib.hid (step_ways s pos hlt x W hx hW L C)
      rw [hW] at hw1 hw2 hadv
      have HD := Lib.hid hadv
      have hb1 : Blk (wr.iterAt w.heap.size s (pos + W)) p 26 #[.int .i64 L, .int .i64 C0] := (Lib.iterAt_other wr w.heap.size p s (pos + W) (fun h => hpK h.symm)).trans hB
      have H1 := Lib.hid (And.intro (Lib.iterAt_heap wr w.heap.size s pos (pos + W) HR.out.1) (And.intro hb1 (Lib.below_iterAt hbel (Nat.le_of_lt cl) s (pos + W))))
      obtain ⟨r0, r1, rl⟩ := hb1.two
      have g0 := hb1.free 0
      have g1 := hb1.free 1
      clear hx hW hB hbel hadv c0 c1 hb1
      rcases hways.out with ⟨rfl, rfl, k1, k2, Q⟩ | ⟨rfl, rfl, k1, k2, Q⟩ | ⟨rfl, rfl, k1, Q⟩ | ⟨k1, k2, Q⟩ | ⟨k1, k2, k3, k4, k5, Q⟩ | ⟨k1, Q⟩
      · have hk : (((s[pos + 1]'k1).toNat : Int) == 10) = true := by rw [← get!_at s (pos + 1) k1]; simp; omega
        clear k2
        go_wp2
        go_roundw
        case rel => exact ⟨pos + 1, _, _, rfl, by omega, Lib.hid ⟨H1.out.1, brel_next hf hw1 HD.out Q.out H1.out.2.1 H1.out.2.2⟩⟩
        case measure => rw [iterPos_of H1.out.1, iterPos_of HR.out.1]; omega
      · have hk : (((s[pos + 1]'k1).toNat : Int) == 10) = false := by rw [← get!_at s (pos + 1) k1]; simp; omega
        clear k2
        go_wp2
        go_roundw
        case rel => exact ⟨pos + 1, _, _, rfl, by omega, Lib.hid ⟨(blk_set_ne H1.out.1 hpK _ _ _), brel_next hf hw1 HD.out Q.out (H1.out.2.1.set 0 (.int .i64 (wrap64 (L + 1)))) (H1.out.2.2.setCell (Nat.le_refl _) _)⟩⟩
        case measure => rw [iterPos_of (blk_set_ne H1.out.1 hpK _ _ _), iterPos_of HR.out.1]; omega
      · go_wp2
        go_roundw
        case rel => exact ⟨pos + 1, _, _, rfl, by omega, Lib.hid ⟨(blk_set_ne H1.out.1 hpK _ _ _), brel_next hf hw1 HD.out Q.out (H1.out.2.1.set 0 (.int .i64 (wrap64 (L + 1)))) (H1.out.2.2.setCell (Nat.le_refl _) _)⟩⟩
        case measure => rw [iterPos_of (blk_set_ne H1.out.1 hpK _ _ _), iterPos_of HR.out.1]; omega
      · have x1 : ((x : Int) == 13) = false := by simp; omega
        rcases k2 with rfl | rfl | rfl
        all_goals
          go_wp2
          go_roundw
          case rel => exact ⟨pos + W, _, _, rfl, by omega, Lib.hid ⟨(blk_set_ne H1.out.1 hpK _ _ _), brel_next hf hw1 HD.out Q.out (H1.out.2.1.set 0 (.int .i64 (wrap64 (L + 1)))) (H1.out.2.2.setCell (Nat.le_refl _) _)⟩⟩
          case measure => rw [iterPos_of (blk_set_ne H1.out.1 hpK _ _ _), iterPos_of HR.out.1]; omega
      · have x1 : ((x : Int) == 13) = false := by simp; omega
        have x2 : ((x : Int) == 10) = false := by simp; omega
        have x3 : ((x : Int) == 8232) = false := by simp; omega
        have x4 : ((x : Int) == 8233) = false := by simp; omega
        go_wp2
        go_roundw
        case rel => exact ⟨pos + W, _, _, rfl, by omega, Lib.hid ⟨H1.out.1, brel_next hf hw1 HD.out Q.out H1.out.2.1 H1.out.2.2⟩⟩
        case measure => rw [iterPos_of H1.out.1, iterPos_of HR.out.1]; omega
      · have x1 : ((x : Int) == 13) = false := by simp; omega
        have x2 : ((x : Int) == 10) = false := by simp; omega
        have x3 : ((x : Int) == 8232) = false := by simp; omega
        have x4 : ((x : Int) == 8233) = false := by simp; omega
        go_wp2
        go_roundw
        case rel => exact ⟨pos + W, _, _, rfl, by omega, Lib.hid ⟨H1.out.1, brel_next hf hw1 HD.out Q.out H1.out.2.1 H1.out.2.2⟩⟩
        case measure => rw [iterPos_of H1.out.1, iterPos_of HR.out.1]; omega
end Go.Proofs.YtbicjmaogbaldaaDoor
