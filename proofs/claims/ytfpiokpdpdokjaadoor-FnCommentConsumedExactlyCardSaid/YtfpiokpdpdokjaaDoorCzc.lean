/-
  FnCommentConsumedExactly's own searches: zzContains, zzIsLegalBody, zzCountByte; containsAtPreserveOrAtLicense. No statement of the seat is proved here.
-/
import Derived.Test.YtfpiokpdpdokjaaDoorCcp
import Derived.Test.YtfpiokpdpdokjaaDoorShelf2
import Derived.Deep.LoopGhost
import Derived.Deep.CutBlock
import Derived.Deep.DeepCutAuto
import Derived.Laws.RangeAny
namespace Go.Proofs.YtfpiokpdpdokjaaDoor
open Go.RowKit
set_option linter.unusedVariables false
set_option maxHeartbeats 2000000 in
theorem zc_any (s p : ByteArray) (w : World) (hs : s.size ≤ 1048576) (hp : p.size ≤ 1048576) (hp1 : 1 ≤ p.size) :
    Calls Tryd.prog 5 #[.string s, .string p] w fun e w' => ((e = .returned (.bool true) ∧ Has s p) ∨ (e = .returned (.bool false) ∧ ¬ Has s p)) ∧ ∃ m, w' = w.drewN m := by
  go_enter Tryd.func5, Tryd.ntmps5
  go_wp2_with fail
  go_loopg [5] (s.size + 1) (fun k a wr => ∃ i m : Nat, a = .int .i64 i ∧ i ≤ s.size ∧ s.size + 1 - i ≤ k ∧ Hid (∀ t, t < i → ¬ HasAt s p t) ∧ wr = w.drewN m)
  case atStart => exact ⟨0, 0, rfl, Nat.zero_le _, by omega, Lib.hid (fun t h => by omega), rfl⟩
  case round =>
    obtain ⟨i, mm, rfl, hi, hk, hno, rfl⟩ := hrel
    rcases (show s.size < i + p.size ∨ i + p.size ≤ s.size by omega) with hlt | hle
    · go_wp2_with fail
      go_ret
      exact ⟨.inr ⟨rfl, fun ⟨t, ht⟩ => hno.out t (by have := ht.1; omega) ht⟩, mm, rfl⟩
    · go_upto_region 5 with fail
      go_loopg [6] p.size (fun k b wr => ∃ j m : Nat, b = .int .i64 j ∧ j ≤ p.size ∧ p.size - j ≤ k ∧ Hid (∀ t, t < j → byteAt s (i + t) = byteAt p t) ∧ wr = w.drewN m)
      case atStart => exact ⟨0, mm, rfl, Nat.zero_le _, Nat.le_refl _, Lib.hid (fun t h => by omega), rfl⟩
      case round =>
        obtain ⟨j, m2, rfl, hj, hjk, hma, rfl⟩ := hrel
        rcases (show j = p.size ∨ j < p.size by omega) with rfl | hlt
        · go_wp2
          go_quiet (fail)
          go_wp2_with fail
          go_ret
          exact ⟨.inl ⟨rfl, i, hle, fun t ht => hma.out t ht⟩, _, rfl⟩
        · have e1 := byteAt_get s (i + j) (by omega)
          have e2 := byteAt_get p j hlt
          obtain ⟨b1, hb1⟩ : ∃ b, byteAt s (i + j) = b := ⟨_, rfl⟩
          obtain ⟨b2, hb2⟩ : ∃ b, byteAt p j = b := ⟨_, rfl⟩
          rw [hb1] at e1
          rw [hb2] at e2
          have HBB := Lib.hid (And.intro hb1 hb2)
          clear hb1 hb2
          have i1 : IntKind.i64.wrap ((i : Int) + j) = (i : Int) + j := IntWalk.i64_in _ (by omega)
          have j1 : (0 : Int) ≤ (i : Int) + j := by omega
          have j2 : (i : Int) + j < (s.size : Int) := by omega
          have k1 : ((i : Int) + j).toNat = i + j := by omega
          rcases (show b1 = b2 ∨ b1 ≠ b2 by omega) with rfl | hne
          · have t1 : ((b1 : Int) == (b1 : Int)) = true := by simp
            go_wp2
            go_quiet (fail)
            go_wp2_with fail
            go_roundg (p.size - (j + 1))
            case measure => omega
            case rel => exact ⟨j + 1, _, by go_num, hlt, Nat.le_refl _, Lib.hid (fun t ht => by rcases (show t = j ∨ t < j by omega) with rfl | h; rw [HBB.out.1, HBB.out.2]; exact hma.out t h), rfl⟩
          · have t1 : ((b1 : Int) == (b2 : Int)) = false := beq_eq_false_iff_ne.2 (by omega)
            have t2 : ((j : Int) == (p.size : Int)) = false := beq_eq_false_iff_ne.2 (by omega)
            go_wp2
            go_quiet (fail)
            go_wp2_with fail
            go_roundg (s.size + 1 - (i + 1))
            case measure => omega
            case rel => exact ⟨i + 1, _, by go_num, by omega, Nat.le_refl _, Lib.hid (fun t ht => by rcases (show t = i ∨ t < i by omega) with rfl | h; exact fun c => hne (by rw [← HBB.out.1, ← HBB.out.2]; exact c.2 j hlt); exact hno.out t h), rfl⟩
theorem zc_yes (s p : ByteArray) (w : World) (hs : s.size ≤ 1048576) (hp : p.size ≤ 1048576) (hp1 : 1 ≤ p.size) (h : Has s p) : Calls Tryd.prog 5 #[.string s, .string p] w fun e w' => e = .returned (.bool true) ∧ ∃ m, w' = w.drewN m :=
  (zc_any s p w hs hp hp1).mono fun e w' ⟨h1, h2⟩ => ⟨by rcases h1 with h1 | h1; exact h1.1; exact absurd h h1.2, h2⟩
theorem zc_no (s p : ByteArray) (w : World) (hs : s.size ≤ 1048576) (hp : p.size ≤ 1048576) (hp1 : 1 ≤ p.size) (h : ¬ Has s p) : Calls Tryd.prog 5 #[.string s, .string p] w fun e w' => e = .returned (.bool false) ∧ ∃ m, w' = w.drewN m :=
  (zc_any s p w hs hp hp1).mono fun e w' ⟨h1, h2⟩ => ⟨by rcases h1 with h1 | h1; exact absurd h1.2 h; exact h1.1, h2⟩
def sPre : ByteArray := ⟨#[64, 112, 114, 101, 115, 101, 114, 118, 101]⟩
def sLic : ByteArray := ⟨#[64, 108, 105, 99, 101, 110, 115, 101]⟩
/-- no legal comment -/
def NoLeg (bd : ByteArray) : Prop := ¬ (0 < bd.size ∧ byteAt bd 0 = 33) ∧ ¬ Has bd sPre ∧ ¬ Has bd sLic
theorem leg_any (bd : ByteArray) (w : World) (hs : bd.size ≤ 1048576) : Calls Tryd.prog 6 #[.string bd] w fun e w' => ∃ b : Bool, e = .returned (.bool b) ∧ (b = false → NoLeg bd) ∧ ∃ m, w' = w.drewN m := by
  by_cases h0 : 0 < bd.size ∧ byteAt bd 0 = 33
  · obtain ⟨h1, h2⟩ := h0
    have e0 := byteAt_get bd 0 h1
    rw [h2] at e0
    go_enter Tryd.func6, Tryd.ntmps6
    go_wp2_with fail
    go_ret
    exact ⟨true, rfl, fun h => (by cases h), 0, rfl⟩
  · have HN := Lib.hid h0
    have hy : ∀ w', Has bd sPre → Calls Tryd.prog 5 #[.string bd, .string ⟨#[64, 112, 114, 101, 115, 101, 114, 118, 101]⟩] w' fun e w'' => e = .returned (.bool true) ∧ ∃ m, w'' = w'.drewN m := fun w' h => zc_yes bd _ w' hs (by decide) (by decide) h
    have hn : ∀ w', ¬ Has bd sPre → Calls Tryd.prog 5 #[.string bd, .string ⟨#[64, 112, 114, 101, 115, 101, 114, 118, 101]⟩] w' fun e w'' => e = .returned (.bool false) ∧ ∃ m, w'' = w'.drewN m := fun w' h => zc_no bd _ w' hs (by decide) (by decide) h
    have hl : ∀ w', Calls Tryd.prog 5 #[.string bd, .string ⟨#[64, 108, 105, 99, 101, 110, 115, 101]⟩] w' fun e w'' => ∃ b : Bool, e = .returned (.bool b) ∧ (b = false → ¬ Has bd sLic) ∧ ∃ m, w'' = w'.drewN m := fun w' => (zc_any bd _ w' hs (by decide) (by decide)).mono fun e w'' ⟨h1, h2⟩ => by
      rcases h1 with ⟨h1, h3⟩ | ⟨h1, h3⟩
      · exact ⟨true, h1, fun h => (by cases h), h2⟩
      · exact ⟨false, h1, fun _ => h3, h2⟩
    have hb0 : ∃ b : Bool, (if h : 0 < bd.size then decide ((bd[0]'h).toNat = 33) else false) = b ∧ b = false := ⟨_, rfl, by
      split
      · rename_i h
        have := byteAt_get bd 0 h
        exact decide_eq_false (fun c => h0 ⟨h, by rw [← this]; exact c⟩)
      · rfl⟩
    clear hb0
    rcases (show bd.size = 0 ∨ (0 < bd.size) by omega) with hz | hz
    · have hz' : bd = ByteArray.empty := ByteArray.ext (Array.eq_empty_of_size_eq_zero hz)
      have d0 : decide ((0 : Int) < (bd.size : Int)) = false := decide_eq_false (by omega)
      have d0' : decide (0 < bd.size) = false := decide_eq_false (by omega)
      clear hz' h0
      by_cases hp : Has bd sPre
      · have HY := fun w' => Lib.hid (hy w' hp)
        clear hy hn hl
        go_enter Tryd.func6, Tryd.ntmps6
        go_wp2_with (go_at_call 5; refine (HY _).out.mono ?_; rintro e w1 ⟨rfl, m1, rfl⟩)
        go_ret
        exact ⟨true, rfl, fun h => (by cases h), _, rfl⟩
      · have HY := fun w' => Lib.hid (hn w' hp)
        have HL := fun w' => Lib.hid (hl w')
        have HP := Lib.hid hp
        clear hy hn hl hp
        go_enter Tryd.func6, Tryd.ntmps6
        go_wp2_with (first | (go_at_call 5; refine (HY _).out.mono ?_; rintro e w1 ⟨rfl, m1, rfl⟩; clear HY) | (go_at_call 5; refine (HL _).out.mono ?_; rintro e w1 ⟨b, rfl, hb, m2, rfl⟩; have HBB := Lib.hid hb; clear hb))
        go_ret
        exact ⟨b, rfl, fun h => ⟨HN.out, HP.out, HBB.out h⟩, _, rfl⟩
    · obtain ⟨c, hc⟩ : ∃ c, byteAt bd 0 = c := ⟨_, rfl⟩
      have e0 := byteAt_get bd 0 hz
      rw [hc] at e0
      have c1 : ((c : Int) == 33) = false := beq_eq_false_iff_ne.2 (by intro h; exact h0 ⟨hz, by omega⟩)
      clear h0 hc
      by_cases hp : Has bd sPre
      · have HY := fun w' => Lib.hid (hy w' hp)
        clear hy hn hl
        go_enter Tryd.func6, Tryd.ntmps6
        go_wp2_with (go_at_call 5; refine (HY _).out.mono ?_; rintro e w1 ⟨rfl, m1, rfl⟩)
        go_ret
        exact ⟨true, rfl, fun h => (by cases h), _, rfl⟩
      · have HY := fun w' => Lib.hid (hn w' hp)
        have HL := fun w' => Lib.hid (hl w')
        have HP := Lib.hid hp
        clear hy hn hl hp
        go_enter Tryd.func6, Tryd.ntmps6
        go_wp2_with (first | (go_at_call 5; refine (HY _).out.mono ?_; rintro e w1 ⟨rfl, m1, rfl⟩; clear HY) | (go_at_call 5; refine (HL _).out.mono ?_; rintro e w1 ⟨b, rfl, hb, m2, rfl⟩; have HBB := Lib.hid hb; clear hb))
        go_ret
        exact ⟨b, rfl, fun h => ⟨HN.out, HP.out, HBB.out h⟩, _, rfl⟩
theorem cnl_any (s : ByteArray) (w : World) (h : s.size ≤ 1048580) : Calls Tryd.prog 14 #[.string s, .int .u8 10] w fun e w' => e = .returned (.int .i64 (cntNL s s.size)) ∧ w' = w := by
  go_enter Tryd.func14, Tryd.ntmps14
  go_wp2_with fail
  go_loopw [5, 6] (fun a b wr => ∃ k m : Nat, k ≤ s.size ∧ m ≤ k ∧ Hid (cntNL s k = m) ∧ a = .int .i64 m ∧ b = .int .i64 k ∧ wr = w) (fun _ b _ => s.size - (intOf b).toNat)
  case atStart => exact ⟨0, 0, Nat.zero_le _, Nat.le_refl _, Lib.hid rfl, rfl, rfl, rfl⟩
  case round =>
    obtain ⟨k, m, hk, hm, hc, rfl, rfl, rfl⟩ := hrel
    rcases (show k = s.size ∨ k < s.size by omega) with rfl | hlt
    · go_wp2
      go_ret
      exact ⟨by rw [hc.out]; rfl, rfl⟩
    · have eb := byteAt_get s k hlt
      obtain ⟨b, hb⟩ : ∃ b, byteAt s k = b := ⟨_, rfl⟩
      rw [hb] at eb
      have hs : Hid (cntNL s (k + 1) = m + (if b = 10 then 1 else 0)) := Lib.hid (by rw [cntNL, hc.out, hb])
      clear hb
      by_cases h10 : b = 10
      · subst h10
        go_wp2
        go_roundw
        case rel => exact ⟨k + 1, m + 1, by omega, by omega, Lib.hid hs.out, by go_num, by go_num, by first | rfl | trivial⟩
        case measure => simp [intOf]; omega
      · have t1 : ((b : Int) == 10) = false := beq_eq_false_iff_ne.2 (by omega)
        go_wp2
        go_roundw
        case rel => exact ⟨k + 1, m, by omega, by omega, Lib.hid (by rw [hs.out, if_neg h10]; rfl), by first | rfl | trivial, by go_num, by first | rfl | trivial⟩
        case measure => simp [intOf]; omega
theorem bytes_yes (a b : ByteArray) (r : Bool) (w : World) (h : a.size + b.size ≤ 1048576) : Calls Tryd.prog 4 #[.string a, .string b, .bool r] w fun e w' => e = .returned (.bool true) ∧ w = w' := by
  have d1 : decide (1048576 < a.size) = false := decide_eq_false (by omega)
  have d2 : decide (1048576 < b.size) = false := decide_eq_false (by omega)
  have d3 : decide ((1048576 : Int) < (a.size : Int) + (b.size : Int)) = false := decide_eq_false (by omega)
  go_enter Tryd.func4, Tryd.ntmps4
  go_wp2
  go_ret
  exact ⟨rfl, rfl⟩
theorem bytes_no (a b : ByteArray) (r : Bool) (w : World) (h : 1048576 < a.size + b.size) (ha : a.size ≤ maxLen) (hb : b.size ≤ maxLen) : Calls Tryd.prog 4 #[.string a, .string b, .bool r] w fun e w' => e = .returned (.bool false) ∧ w = w' := by
  unfold maxLen at ha hb
  by_cases e1 : 1048576 < a.size
  · go_enter Tryd.func4, Tryd.ntmps4
    go_wp2
    go_ret
    exact ⟨rfl, rfl⟩
  have d1 : decide (1048576 < a.size) = false := decide_eq_false (by omega)
  by_cases e2 : 1048576 < b.size
  · go_enter Tryd.func4, Tryd.ntmps4
    go_wp2
    go_ret
    exact ⟨rfl, rfl⟩
  have d2 : decide (1048576 < b.size) = false := decide_eq_false (by omega)
  have d3 : decide ((1048576 : Int) < (a.size : Int) + (b.size : Int)) = true := decide_eq_true (by omega)
  go_enter Tryd.func4, Tryd.ntmps4
  go_wp2
  go_ret
  exact ⟨rfl, rfl⟩
/-- no legal mark in the text -/
theorem cal_any (t : ByteArray) (w : World) (ht : t.size ≤ 2097152) (h1 : ¬ Has t sPre) (h2 : ¬ Has t sLic) : Calls Tryd.prog 27 #[.string t] w fun e w' => e = .returned (.bool false) ∧ Below w.heap.size w w' := by
  have HN := Lib.hid (And.intro h1 h2)
  clear h1 h2
  go_enter Tryd.func27, Tryd.ntmps27
  go_wp2
  go_loopw [] (fun w' => ∃ pos : Nat, w' = w.iter t pos ∧ pos ≤ t.size) (fun w' => t.size - w'.iterPos w.heap.size)
  case atStart => exact ⟨0, rfl, Nat.zero_le _⟩
  case round =>
    obtain ⟨pos, rfl, hle⟩ := hrel
    by_cases hp : pos < t.size
    · have hnx : ∀ ty, (Instr.next (.pointer (some ⟨w.heap.size, 0, none⟩)) true ty).run Tryd.prog (w.iter t pos) = _ := fun ty => run_next_any w t pos ty hp
      have hw := width_le t pos hp
      have hd : decAt t pos = (((Utf8.decode t pos).1 : Int), (Utf8.decode t pos).2) := by unfold decAt; rw [if_pos hp]
      by_cases h64 : (Utf8.decode t pos).1 = 64
      · obtain ⟨_, hb, hw1⟩ := decAt_small t pos (c := 64) (by rw [hd]; simp [h64]) (by decide) (by decide)
        have q1 : Lib.hasPrefix (t.extract (pos + 1) t.size).data.toList (#[112, 114, 101, 115, 101, 114, 118, 101] : Array UInt8).toList = false := by
          rw [Bool.eq_false_iff]
          intro c
          have := (hp_at t ⟨#[112, 114, 101, 115, 101, 114, 118, 101]⟩ (pos + 1) (by omega)).1 c
          refine HN.out.1 ⟨pos, by have := this.1; show pos + 9 ≤ t.size; have e : pos + 1 + 8 ≤ t.size := this; omega, fun j hj => ?_⟩
          rcases j with _ | j
          · show byteAt t pos = 64; omega
          · have k := this.2 j (by have : j + 1 < 9 := hj; show j < 8; omega)
            rw [show pos + (j + 1) = pos + 1 + j by omega, k]
            have hj9 : j + 1 < 9 := hj
            match j, hj9 with
            | 0, _ => rfl
            | 1, _ => rfl
            | 2, _ => rfl
            | 3, _ => rfl
            | 4, _ => rfl
            | 5, _ => rfl
            | 6, _ => rfl
            | 7, _ => rfl
        have q2 : Lib.hasPrefix (t.extract (pos + 1) t.size).data.toList (#[108, 105, 99, 101, 110, 115, 101] : Array UInt8).toList = false := by
          rw [Bool.eq_false_iff]
          intro c
          have := (hp_at t ⟨#[108, 105, 99, 101, 110, 115, 101]⟩ (pos + 1) (by omega)).1 c
          refine HN.out.2 ⟨pos, by have := this.1; show pos + 8 ≤ t.size; have e : pos + 1 + 7 ≤ t.size := this; omega, fun j hj => ?_⟩
          rcases j with _ | j
          · show byteAt t pos = 64; omega
          · have k := this.2 j (by have : j + 1 < 8 := hj; show j < 7; omega)
            rw [show pos + (j + 1) = pos + 1 + j by omega, k]
            have hj9 : j + 1 < 8 := hj
            match j, hj9 with
            | 0, _ => rfl
            | 1, _ => rfl
            | 2, _ => rfl
            | 3, _ => rfl
            | 4, _ => rfl
            | 5, _ => rfl
            | 6, _ => rfl
        have HQ1 := Lib.hid q1
        have HQ2 := Lib.hid q2
        have hw2 : (Utf8.decode t pos).2 = 1 := by have := hw1; rw [hd] at this; exact this
        clear q1 q2 hd hb hw1 hw
        rw [h64, hw2] at hnx
        have hple : pos + 1 ≤ t.size := hp
        clear h64 hw2
        go_wp2_with (first
          | (go_at_call 25; refine (Tryd.strings_HasPrefix _ _ _).mono ?_; rintro e w1 ⟨rfl, rfl⟩; first | (rw [HQ1.out]; clear HQ1) | rw [HQ2.out]))
        go_roundw
        case rel => exact ⟨pos + 1, rfl, hp⟩
        case measure => simp; omega
      · have g1 : (((Utf8.decode t pos).1 : Int) == 64) = false := beq_eq_false_iff_ne.2 (by omega)
        clear hd
        generalize (Utf8.decode t pos) = dd at *
        obtain ⟨n, wd⟩ := dd
        simp only at hnx hw g1
        go_wp2
        go_roundw
        case rel => exact ⟨pos + wd, rfl, hw.2⟩
        case measure => simp; omega
    · have hnx : ∀ ty, (Instr.next (.pointer (some ⟨w.heap.size, 0, none⟩)) true ty).run Tryd.prog (w.iter t pos) = _ := fun ty => run_next_end w t pos ty hp
      go_wp2
      go_ret
      exact ⟨rfl, (Below.refl _ w).alloc (Nat.le_refl _) _⟩
end Go.Proofs.YtfpiokpdpdokjaaDoor
