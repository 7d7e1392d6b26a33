/-
  For every text the law FnIsNumericTokensHaveNumericShape returns true: where no slash, backslash, quote or opening parenthesis lies in the text, every css token lies inside it, a numeric one has numeric shape (a percentage ends in a percent sign behind a digit or a dot, a number in a digit or a dot, a dimension's unit offset lies strictly inside, behind a digit or a dot, at a name-start byte or a minus), and every other one has unit offset 0 (outside its premise the law returns true too). The card ties the decoder's tables to the program's text.
-/
import Derived.Test.YtlbpplkanogkgaaDoorCards
import Derived.Test.YtlbpplkanogkgaaDoorTie
import Derived.WalkKit
import Derived.ProofKit
import Derived.OpenShut
import Derived.ShutString
import Derived.ChangeOld
import Derived.Below
import Derived.Deep.DeepHandedRow
import Derived.Deep.DeepWitnessRowRef
import Derived.Lib.LaidIn
import Derived.Lib.LaidSlice
import Derived.Lib.LaidU8
import Derived.PinnedBridge
import Derived.OpenVars
import Derived.Lib.LaidU8T
import Derived.PinnedBridge
import Derived.BigQuiet
import Derived.Test.YtlbpplkanogkgaaDoorCssTkz
namespace Go.Proofs.YtlbpplkanogkgaaDoor.fnIsNumericTokensHaveNumericShape
open Go.ChangeShapes Go.WideShapes Go.ChangeAt Go.RowKit
open Go.ChangeMaps (open_string shut_string)
set_option linter.unusedVariables false

theorem own : ownKnob Tryd.prog.godebug = none := by kernel_rfl
theorem laidOut : laidOutB Tryd.prog = true := by kernel_rfl

def u8ren : Go.Shelf.Ren := ⟨fun n => n, fun | 119 => 165 | 138 => 167 | 139 => 168 | n => n, fun | 3 => 0 | 4 => 1 | n => n⟩
theorem u8types : U8Types Tryd.prog u8ren := ⟨Tryd.underlying5, Tryd.underlying165, Tryd.underlying167, Tryd.underlying168⟩
theorem u8extra : U8Extra Tryd.prog u8ren := ⟨by kernel_rfl, by kernel_rfl, by kernel_rfl, by kernel_rfl, by kernel_rfl, by kernel_rfl, by kernel_rfl⟩
theorem bytes_no (s : ByteArray) (w : World) (h : 1048576 < s.size) (hm : s.size ≤ maxLen) : Calls Tryd.prog 39 #[.string s] w fun e w' => e = .returned (.bool false) ∧ w = w' := by
  unfold maxLen at hm
  go_enter Tryd.func39, Tryd.ntmps39
  go_wp2
  go_ret
  exact ⟨rfl, rfl⟩
theorem bytes_yes (s : ByteArray) (w : World) (h : s.size ≤ 1048576) : Calls Tryd.prog 39 #[.string s] w fun e w' => e = .returned (.bool true) ∧ w = w' := by
  go_enter Tryd.func39, Tryd.ntmps39
  go_wp2
  go_ret
  exact ⟨rfl, rfl⟩
set_option maxRecDepth 100000 in
theorem bad1 (s : ByteArray) (w : World) (h : 1048576 < s.size) (hm : s.size ≤ maxLen) : Calls Tryd.prog 8 #[.string s] w fun e w' => e = .returned (.bool true) ∧ Below w.heap.size w w' := by
  go_enter Tryd.func8, Tryd.ntmps8
  go_wp2_with (go_at_call 39; refine (bytes_no _ _ h hm).mono ?_; rintro e w1 ⟨rfl, rfl⟩)
  go_ret
  exact ⟨rfl, Below.refl _ _⟩
set_option maxRecDepth 100000 in
theorem bad2 (s : ByteArray) (w : World) (h : s.size ≤ 1048576) (h2 : decide ((60000 : Int) < (s.size : Int)) = true) : Calls Tryd.prog 8 #[.string s] w fun e w' => e = .returned (.bool true) ∧ Below w.heap.size w w' := by
  go_enter Tryd.func8, Tryd.ntmps8
  go_wp2_with (go_at_call 39; refine (bytes_yes _ _ h).mono ?_; rintro e w1 ⟨rfl, rfl⟩)
  go_ret
  exact ⟨rfl, Below.refl _ _⟩
set_option maxRecDepth 100000 in
theorem sb_yes (c : Nat) (w : World) (h : c ≠ 47 ∧ c ≠ 92 ∧ c ≠ 34 ∧ c ≠ 39 ∧ c ≠ 40) : Calls Tryd.prog 36 #[.int .u8 c] w fun e w' => e = .returned (.bool true) ∧ w = w' := by
  have t1 : ((c : Int) == 47) = false := beq_eq_false_iff_ne.2 (by omega)
  have t2 : ((c : Int) == 92) = false := beq_eq_false_iff_ne.2 (by omega)
  have t3 : ((c : Int) == 34) = false := beq_eq_false_iff_ne.2 (by omega)
  have t4 : ((c : Int) == 39) = false := beq_eq_false_iff_ne.2 (by omega)
  have t5 : ((c : Int) == 40) = false := beq_eq_false_iff_ne.2 (by omega)
  clear h
  go_enter Tryd.func36, Tryd.ntmps36
  go_wp2
  go_ret
  exact ⟨rfl, rfl⟩
set_option maxRecDepth 100000 in
theorem sb_not (c : Nat) (w : World) (h : ¬ (c ≠ 47 ∧ c ≠ 92 ∧ c ≠ 34 ∧ c ≠ 39 ∧ c ≠ 40)) : Calls Tryd.prog 36 #[.int .u8 c] w fun e w' => e = .returned (.bool false) ∧ w = w' := by
  rcases (show c = 47 ∨ c = 92 ∨ c = 34 ∨ c = 39 ∨ c = 40 by omega) with rfl | rfl | rfl | rfl | rfl
  all_goals
    clear h
    go_enter Tryd.func36, Tryd.ntmps36
    go_wp2
    go_ret
    exact ⟨rfl, rfl⟩
theorem dig_yes (c : Nat) (w : World) (h1 : 48 ≤ c) (h2 : c ≤ 57) : Calls Tryd.prog 41 #[.int .u8 c] w fun e w' => e = .returned (.bool true) ∧ w = w' := by
  go_enter Tryd.func41, Tryd.ntmps41
  go_wp2
  go_ret
  exact ⟨ret_bool (by first | rfl | (simp; omega)), rfl⟩
theorem dig_not (c : Nat) (w : World) (h : ¬ (48 ≤ c ∧ c ≤ 57)) : Calls Tryd.prog 41 #[.int .u8 c] w fun e w' => e = .returned (.bool false) ∧ w = w' := by
  rcases (show c < 48 ∨ (48 ≤ c ∧ 57 < c) by omega) with h1 | ⟨h1, h2⟩
  all_goals
    clear h
    go_enter Tryd.func41, Tryd.ntmps41
    go_wp2
    go_ret
    exact ⟨ret_bool (by first | rfl | (simp; omega)), rfl⟩
theorem isnum_no (kd : Nat) (w : World) (h : numKd kd = false) : Calls Tryd.prog 40 #[.int .u8 kd] w fun e w' => e = .returned (.bool false) ∧ w = w' := by
  unfold numKd at h
  simp only [decide_eq_false_iff_not, not_or] at h
  have t1 : ((kd : Int) == 30) = false := beq_eq_false_iff_ne.2 (by omega)
  have t2 : ((kd : Int) == 34) = false := beq_eq_false_iff_ne.2 (by omega)
  have t3 : ((kd : Int) == 26) = false := beq_eq_false_iff_ne.2 (by omega)
  clear h
  go_enter Tryd.func40, Tryd.ntmps40
  go_wp2
  go_ret
  exact ⟨rfl, rfl⟩
theorem isnum_yes (kd : Nat) (w : World) (h : kd = 26 ∨ kd = 30 ∨ kd = 34) : Calls Tryd.prog 40 #[.int .u8 kd] w fun e w' => e = .returned (.bool true) ∧ w = w' := by
  rcases h with rfl | rfl | rfl
  all_goals
    go_enter Tryd.func40, Tryd.ntmps40
    go_wp2
    go_ret
    exact ⟨rfl, rfl⟩
/-- a byte that starts a name -/
def nsb (c : Nat) : Prop := (97 ≤ c ∧ c ≤ 122) ∨ (65 ≤ c ∧ c ≤ 90) ∨ c = 95 ∨ c = 0 ∨ 128 ≤ c
set_option maxRecDepth 100000 in
theorem nsb_yes (c : Nat) (w : World) (h : nsb c) : Calls Tryd.prog 42 #[.int .u8 c] w fun e w' => e = .returned (.bool true) ∧ w = w' := by
  rcases (show c = 0 ∨ (0 < c ∧ 65 ≤ c ∧ c ≤ 90 ∧ c < 97) ∨ (0 < c ∧ 90 < c ∧ c = 95) ∨ (97 ≤ c ∧ c ≤ 122) ∨ (128 ≤ c) by unfold nsb at h; omega) with rfl | ⟨h0, h1, h2, h3⟩ | ⟨h0, h1, rfl⟩ | ⟨h1, h2⟩ | h1
  case inr.inr.inr.inr =>
    have t1 : decide ((c : Int) ≤ 122) = false := decide_eq_false (by omega)
    have t2 : decide ((c : Int) ≤ 90) = false := decide_eq_false (by omega)
    have t1' : decide (c ≤ 122) = false := decide_eq_false (by omega)
    have t2' : decide (c ≤ 90) = false := decide_eq_false (by omega)
    have t3 : ((c : Int) == 95) = false := beq_eq_false_iff_ne.2 (by omega)
    have t4 : ((c : Int) == 0) = false := beq_eq_false_iff_ne.2 (by omega)
    have h65 : 65 ≤ c := by omega
    have h97 : 97 ≤ c := by omega
    clear h
    go_enter Tryd.func42, Tryd.ntmps42
    go_wp2
    go_ret
    exact ⟨ret_bool (by first | rfl | (simp; omega)), rfl⟩
  all_goals
    clear h
    go_enter Tryd.func42, Tryd.ntmps42
    go_wp2
    go_ret
    exact ⟨ret_bool (by first | rfl | (simp; omega)), rfl⟩
theorem nsb_minus (w : World) : Calls Tryd.prog 42 #[.int .u8 45] w fun e w' => e = .returned (.bool false) ∧ w = w' := by
  go_enter Tryd.func42, Tryd.ntmps42
  go_wp2
  go_ret
  exact ⟨rfl, rfl⟩
/-- where an identifier would start, on a text without backslashes -/
theorem wsi_byte {s : ByteArray} {m : Nat} (hs : Safe s) (h : wsi s m = true) : m < s.size ∧ (nsb (byteAt s m) ∨ byteAt s m = 45) := by
  unfold wsi at h
  rw [safe_esc hs] at h
  rcases decAt_cases s m with ⟨_, e⟩ | ⟨hl, hb, e⟩ | ⟨hl, hb, e⟩
  · rw [e] at h
    simp [nameStart] at h
  · refine ⟨hl, ?_⟩
    rw [e] at h
    simp only [Bool.or_eq_true] at h
    rcases h with h | h
    · left
      unfold nameStart at h
      simp only [decide_eq_true_eq] at h
      unfold nsb; omega
    · right
      by_cases c : (byteAt s m : Int) = 45
      · omega
      · rw [if_neg c] at h; cases h
  · exact ⟨hl, .inl (by unfold nsb; omega)⟩
theorem bdr {B : Nat} {a w : World} (h : Below B a w) (m : Nat) : Below B a (w.drewN m) := ⟨h.os, h.tape, h.output, h.size, h.block⟩
theorem field101 (ao : Option Addr) (m cap : Nat) (n : Int) (w : World) : Sem.run Tryd.prog (Instr.field 101 (.agg #[.slice ao m cap, .slice none 0 0, .slice none 0 0, .string ByteArray.empty, .int .i32 0, .int .i32 0, .int .i32 n]) 0) w = .ok (.slice ao m cap) w := by kernel_rfl
theorem kd_num {kd : Nat} (h : numKd kd = true) : kd = 26 ∨ kd = 30 ∨ kd = 34 := by
  unfold numKd at h
  simpa using h
set_option maxRecDepth 100000 in
set_option maxHeartbeats 4000000 in
theorem good (s : ByteArray) (w : World) (h : s.size ≤ 60000) (ht : Lib.Utf8Tabs 0 1 w) : Calls Tryd.prog 8 #[.string s] w fun e w' => e = .returned (.bool true) ∧ Below w.heap.size w w' := by
  have HT := Lib.hid ht
  have HZ := Lib.hid h
  have h' : s.size ≤ 1048576 := by omega
  have d0 : decide ((60000 : Int) < (s.size : Int)) = false := decide_eq_false (by omega)
  clear ht h
  go_enter Tryd.func8, Tryd.ntmps8
  go_wp2_with fail
  refine (bytes_yes _ _ h').mono ?_
  rintro e w1 ⟨rfl, rfl⟩
  go_wp2_with fail
  go_loopw [2, 3] (fun v a wr => v = .bool false ∧ ∃ k : Nat, k ≤ s.size ∧ a = .int .i64 k ∧ wr = w ∧ Hid (∀ j, j < k → byteAt s j ≠ 47 ∧ byteAt s j ≠ 92 ∧ byteAt s j ≠ 34 ∧ byteAt s j ≠ 39 ∧ byteAt s j ≠ 40)) (fun _ a _ => s.size - (intOf a).toNat)
  case atStart => exact ⟨rfl, 0, Nat.zero_le _, rfl, rfl, Lib.hid (fun j hj => by omega)⟩
  case round =>
    obtain ⟨rfl, k, hk, rfl, rfl, HK⟩ := hrel
    rcases (show k = s.size ∨ k < s.size by omega) with rfl | hlt
    · have HS : Hid (Safe s) := Lib.hid HK.out
      clear HK
      go_wp2_with fail
      refine (tkz_any s false _ HS.out h' HT.out).mono ?_
      rintro e w2 ⟨ao, cap, ts, rfl, hO, hC, hb2⟩
      obtain ⟨ao', cap', hv, hcap, hblk, hcell⟩ := hO.at
      simp only [Value.slice.injEq] at hv
      obtain ⟨rfl, _, rfl⟩ := hv
      have hlen := hC.len (Nat.le_refl _)
      have H2 := Lib.hid (And.intro hC (And.intro hb2 (And.intro hblk hcell)))
      have hz2 := hb2.size
      obtain ⟨n, hn⟩ : ∃ n : Int, (cntNL s s.size : Int) + 1 = n := ⟨_, rfl⟩
      rw [hn]
      unfold c7
      have hlen2 : ts.length ≤ 1048576 := by omega
      have hfld := field101 ao ts.length cap n w2
      clear hO hC hb2 hblk hcell hn hlen
      go_wp2_with fail
      clear hfld
      go_loopw [35] (fun b wr => ∃ k : Nat, k ≤ ts.length ∧ b = .int .i64 k ∧ Below w2.heap.size w2 wr) (fun b _ => ts.length - (intOf b).toNat)
      case atStart => exact ⟨0, Nat.zero_le _, rfl, Below.refl _ _⟩
      case round =>
        obtain ⟨k, hk, rfl, hbel⟩ := hrel
        have hz := hbel.size
        rcases (show k = ts.length ∨ k < ts.length by omega) with rfl | hlt
        · have HF := Lib.hid (H2.out.2.1.trans (hbel.mono hz2))
          clear hbel
          go_wp2
          go_ret
          exact ⟨rfl, HF.out⟩
        · obtain ⟨hst, hk0, hP⟩ := H2.out.1.2 k hlt
          obtain ⟨g, hao, hg⟩ := H2.out.2.2.1 k hlt
          have hcs := H2.out.2.2.2 g hao k hlt
          generalize ts[k] = t at *
          obtain ⟨st, ln, un, kd, fl⟩ := t
          simp only at hk0 hP
          rcases hP with ⟨h0, _⟩ | ⟨hp1, hp2, hok, hnum⟩
          · exact absurd h0 hk0
          have c0 : wr.cell? ⟨g, k * 5, none⟩ = some (.int .i32 st) := (hbel.cell (p := ⟨g, k * 5, none⟩) hg).trans (hcs 0 (by omega))
          have c1 : wr.cell? ⟨g, k * 5 + 1, none⟩ = some (.int .i32 ln) := (hbel.cell (p := ⟨g, k * 5 + 1, none⟩) hg).trans (hcs 1 (by omega))
          have c2 : wr.cell? ⟨g, k * 5 + 2, none⟩ = some (.int .u16 un) := (hbel.cell (p := ⟨g, k * 5 + 2, none⟩) hg).trans (hcs 2 (by omega))
          have c3 : wr.cell? ⟨g, k * 5 + 3, none⟩ = some (.int .u8 kd) := (hbel.cell (p := ⟨g, k * 5 + 3, none⟩) hg).trans (hcs 3 (by omega))
          have c4 : wr.cell? ⟨g, k * 5 + 4, none⟩ = some (.int .u8 fl) := (hbel.cell (p := ⟨g, k * 5 + 4, none⟩) hg).trans (hcs 4 (by omega))
          have hln0 : ¬ ln = 0 := by omega
          have t1 : decide ((st : Int) < 0) = false := decide_eq_false (by omega)
          have t2 : decide ((s.size : Int) < (st : Int) + (ln : Int)) = false := decide_eq_false (by omega)
          have t2' : decide (s.size < st + ln) = false := decide_eq_false (by omega)
          have HF := Lib.hid hbel
          clear hcs hbel hst hk0
          subst hao
          rcases hnum with ⟨hnk, rfl⟩ | ⟨hnk, m, ⟨hm1, hm2, hlast⟩, hcase⟩
          · have HNK := Lib.hid hnk
            clear hnk hok
            go_wp2_with (go_at_call 40; refine (isnum_no kd _ HNK.out).mono ?_; rintro e w5 ⟨rfl, rfl⟩)
            go_roundw
            case rel => exact ⟨k + 1, by omega, by go_num, HF.out.alloc hz _⟩
            case measure => simp [intOf]; omega
          · rcases hcase with ⟨rfl, hw, hq1, hq2, hun⟩ | ⟨rfl, _, hml, hpc, hq, rfl⟩ | ⟨rfl, _, hnp, hq, rfl⟩
            · obtain ⟨u, hu⟩ : ∃ u, m = st + u := ⟨m - st, by omega⟩
              subst hu
              have e : un = u := by have := HZ.out; omega
              subst e
              have hu0 : ¬ un = 0 := by omega
              have hu1 : decide ((ln : Int) ≤ (un : Int)) = false := decide_eq_false (by omega)
              have hu1' : decide (ln ≤ un) = false := decide_eq_false (by omega)
              obtain ⟨hmz, hnb⟩ := wsi_byte HS.out hw
              have eb1 := byteAt_get s (st + un) hmz
              obtain ⟨b1, hb1⟩ : ∃ b, byteAt s (st + un) = b := ⟨_, rfl⟩
              rw [hb1] at eb1 hnb
              have hl2 : st + un - 1 < s.size := by omega
              have eb2 := byteAt_get s (st + un - 1) hl2
              have hlast : isD (byteAt s (st + un - 1)) ∨ byteAt s (st + un - 1) = 46 := hlast
              obtain ⟨b2, hb2⟩ : ∃ b, byteAt s (st + un - 1) = b := ⟨_, rfl⟩
              rw [hb2] at eb2 hlast
              have HC := Lib.hid (fun w => isnum_yes 26 w (by omega))
              clear hnk hok hp1 hun hw hb1 hb2
              have hx1 : Hid (b1 = 45 ∨ ∀ w, Calls Tryd.prog 42 #[.int .u8 b1] w fun e w' => e = .returned (.bool true) ∧ w = w') := Lib.hid (by
                rcases hnb with hnb | hnb
                · exact .inr (fun w => nsb_yes b1 w hnb)
                · exact .inl hnb)
              have hx2 : Hid (b2 = 46 ∨ ∀ w, Calls Tryd.prog 41 #[.int .u8 b2] w fun e w' => e = .returned (.bool true) ∧ w = w') := Lib.hid (by
                rcases hlast with ⟨y1, y2⟩ | hlast
                · exact .inr (fun w => dig_yes b2 w y1 y2)
                · exact .inl hlast)
              clear hnb hlast
              rcases hx1.out with rfl | h1
              · rcases hx2.out with rfl | h2
                · go_wp2_with (first | (go_at_call 40; refine (HC.out _).mono ?_; rintro e w5 ⟨rfl, rfl⟩) | (go_at_call 42; refine (nsb_minus _).mono ?_; rintro e w6 ⟨rfl, rfl⟩) | (go_at_call 41; refine (dig_not 46 _ (by omega)).mono ?_; rintro e w7 ⟨rfl, rfl⟩))
                  go_roundw
                  case rel => exact ⟨k + 1, by omega, by go_num, HF.out.alloc hz _⟩
                  case measure => simp [intOf]; omega
                · have H2' := Lib.hid h2
                  clear h2
                  go_wp2_with (first | (go_at_call 40; refine (HC.out _).mono ?_; rintro e w5 ⟨rfl, rfl⟩) | (go_at_call 42; refine (nsb_minus _).mono ?_; rintro e w6 ⟨rfl, rfl⟩) | (go_at_call 41; refine (H2'.out _).mono ?_; rintro e w7 ⟨rfl, rfl⟩))
                  go_roundw
                  case rel => exact ⟨k + 1, by omega, by go_num, HF.out.alloc hz _⟩
                  case measure => simp [intOf]; omega
              · have H1' := Lib.hid h1
                clear h1
                rcases hx2.out with rfl | h2
                · go_wp2_with (first | (go_at_call 40; refine (HC.out _).mono ?_; rintro e w5 ⟨rfl, rfl⟩) | (go_at_call 42; refine (H1'.out _).mono ?_; rintro e w6 ⟨rfl, rfl⟩) | (go_at_call 41; refine (dig_not 46 _ (by omega)).mono ?_; rintro e w7 ⟨rfl, rfl⟩))
                  go_roundw
                  case rel => exact ⟨k + 1, by omega, by go_num, HF.out.alloc hz _⟩
                  case measure => simp [intOf]; omega
                · have H2' := Lib.hid h2
                  clear h2
                  go_wp2_with (first | (go_at_call 40; refine (HC.out _).mono ?_; rintro e w5 ⟨rfl, rfl⟩) | (go_at_call 42; refine (H1'.out _).mono ?_; rintro e w6 ⟨rfl, rfl⟩) | (go_at_call 41; refine (H2'.out _).mono ?_; rintro e w7 ⟨rfl, rfl⟩))
                  go_roundw
                  case rel => exact ⟨k + 1, by omega, by go_num, HF.out.alloc hz _⟩
                  case measure => simp [intOf]; omega
            · have em : m = st + ln - 1 := by omega
              subst em
              have hln2 : decide ((ln : Int) < 2) = false := decide_eq_false (by omega)
              have hln2' : decide (ln < 2) = false := decide_eq_false (by omega)
              have eb1 := byteAt_get s (st + ln - 1) hml
              rw [hpc] at eb1
              have hl2 : st + ln - 2 < s.size := by omega
              have eb2 := byteAt_get s (st + ln - 2) hl2
              have hlast : isD (byteAt s (st + ln - 1 - 1)) ∨ byteAt s (st + ln - 1 - 1) = 46 := hlast
              rw [show st + ln - 1 - 1 = st + ln - 2 by omega] at hlast
              obtain ⟨b2, hb2⟩ : ∃ b, byteAt s (st + ln - 2) = b := ⟨_, rfl⟩
              rw [hb2] at eb2 hlast
              have HC := Lib.hid (fun w => isnum_yes 34 w (by omega))
              have hx2 : Hid (b2 = 46 ∨ ∀ w, Calls Tryd.prog 41 #[.int .u8 b2] w fun e w' => e = .returned (.bool true) ∧ w = w') := Lib.hid (by
                rcases hlast with ⟨y1, y2⟩ | hlast
                · exact .inr (fun w => dig_yes b2 w y1 y2)
                · exact .inl hlast)
              have hm3 : st + 2 ≤ st + ln := by omega
              clear hnk hok hp1 hb2 hpc hq hlast
              rcases hx2.out with rfl | h2
              · go_wp2_with (first | (go_at_call 40; refine (HC.out _).mono ?_; rintro e w5 ⟨rfl, rfl⟩) | (go_at_call 41; refine (dig_not 46 _ (by omega)).mono ?_; rintro e w7 ⟨rfl, rfl⟩))
                go_roundw
                case rel => exact ⟨k + 1, by omega, by go_num, HF.out.alloc hz _⟩
                case measure => simp [intOf]; omega
              · have H2' := Lib.hid h2
                clear h2
                go_wp2_with (first | (go_at_call 40; refine (HC.out _).mono ?_; rintro e w5 ⟨rfl, rfl⟩) | (go_at_call 41; refine (H2'.out _).mono ?_; rintro e w7 ⟨rfl, rfl⟩))
                go_roundw
                case rel => exact ⟨k + 1, by omega, by go_num, HF.out.alloc hz _⟩
                case measure => simp [intOf]; omega
            · subst hq
              have hl2 : st + ln - 1 < s.size := by omega
              have eb2 := byteAt_get s (st + ln - 1) hl2
              have hlast : isD (byteAt s (st + ln - 1)) ∨ byteAt s (st + ln - 1) = 46 := hlast
              obtain ⟨b2, hb2⟩ : ∃ b, byteAt s (st + ln - 1) = b := ⟨_, rfl⟩
              rw [hb2] at eb2 hlast
              have HC := Lib.hid (fun w => isnum_yes 30 w (by omega))
              have hx2 : Hid (b2 = 46 ∨ ∀ w, Calls Tryd.prog 41 #[.int .u8 b2] w fun e w' => e = .returned (.bool true) ∧ w = w') := Lib.hid (by
                rcases hlast with ⟨y1, y2⟩ | hlast
                · exact .inr (fun w => dig_yes b2 w y1 y2)
                · exact .inl hlast)
              clear hnk hok hp1 hb2 hnp hlast
              rcases hx2.out with rfl | h2
              · go_wp2_with (first | (go_at_call 40; refine (HC.out _).mono ?_; rintro e w5 ⟨rfl, rfl⟩) | (go_at_call 41; refine (dig_not 46 _ (by omega)).mono ?_; rintro e w7 ⟨rfl, rfl⟩))
                go_roundw
                case rel => exact ⟨k + 1, by omega, by go_num, HF.out.alloc hz _⟩
                case measure => simp [intOf]; omega
              · have H2' := Lib.hid h2
                clear h2
                go_wp2_with (first | (go_at_call 40; refine (HC.out _).mono ?_; rintro e w5 ⟨rfl, rfl⟩) | (go_at_call 41; refine (H2'.out _).mono ?_; rintro e w7 ⟨rfl, rfl⟩))
                go_roundw
                case rel => exact ⟨k + 1, by omega, by go_num, HF.out.alloc hz _⟩
                case measure => simp [intOf]; omega
    · have eb := byteAt_get s k hlt
      obtain ⟨b, hb⟩ : ∃ b, byteAt s k = b := ⟨_, rfl⟩
      rw [hb] at eb
      by_cases hsb : b ≠ 47 ∧ b ≠ 92 ∧ b ≠ 34 ∧ b ≠ 39 ∧ b ≠ 40
      · have HK2 : Hid (∀ j, j < k + 1 → byteAt s j ≠ 47 ∧ byteAt s j ≠ 92 ∧ byteAt s j ≠ 34 ∧ byteAt s j ≠ 39 ∧ byteAt s j ≠ 40) := Lib.hid (fun j hj => by
          rcases (show j = k ∨ j < k by omega) with rfl | hl
          · rw [hb]; exact hsb
          · exact HK.out j hl)
        have HB := Lib.hid hsb
        clear hsb HK hb
        go_wp2_with (go_at_call 36; refine (sb_yes _ _ HB.out).mono ?_; rintro e w2 ⟨rfl, rfl⟩)
        go_roundw
        case rel => exact ⟨by first | rfl | trivial, k + 1, by omega, by go_num, by first | rfl | trivial, HK2⟩
        case measure => simp [intOf]; omega
      · have HB := Lib.hid hsb
        clear hsb HK hb
        go_wp2_with (go_at_call 36; refine (sb_not _ _ HB.out).mono ?_; rintro e w2 ⟨rfl, rfl⟩)
        go_ret
        exact ⟨rfl, Below.refl _ _⟩

theorem walk (a0 : ByteArray) (w0 : a0.size ≤ maxLen) (w : World) (hL : laidMetH Tryd.prog Rows.fnIsNumericTokensHaveNumericShapeRow.laid w) :
    Calls Tryd.prog 8 #[.string a0] w fun e w' => e = .returned (.bool true) ∧ Below w.heap.size w w' := by
  have ht : Lib.Utf8Tabs 0 1 w := utf8Tabs_of_readsT u8types u8extra (Pinned.utf8First_eq ▸ Lib.laidMet.reads hL (.tail _ (.head _))) (Lib.laidMet.reads hL (.head _))
  by_cases hl : a0.size ≤ 1048576
  · by_cases h2 : a0.size ≤ 60000
    · exact good a0 w h2 ht
    · exact bad2 a0 w hl (decide_eq_true (by omega))
  · exact bad1 a0 w (by omega) w0

open Go.Lib
set_option maxRecDepth 100000 in
theorem contract (H : Type) (enc : TypeId × Value → H) (W : World) (base : Nat) (args : Array Value) (ds gs : List (DataW H)) (before : List MemPlace)
    (hval : ∀ (j : Nat) t v, Tryd.f8.params[j]? = some t → args[j]? = some v → Value.okWide Tryd.prog W .any base t v)
    (hW : DataW.Whole enc Tryd.prog Tryd.f8.params.toList Rows.fnIsNumericTokensHaveNumericShapeSpec.vars false W args.toList ds gs before) (hL : laidMetH Tryd.prog Rows.fnIsNumericTokensHaveNumericShapeRow.laid W) :
    Calls Tryd.prog 8 args W fun e W' => ∃ v, e = .returned v ∧ Rows.fnIsNumericTokensHaveNumericShapeSpec.post enc Tryd.prog Tryd.f8 false true false false W args v W' := by
  have hW' := hW
  obtain ⟨p, q, hA0, hV, rfl, hfz, hnd⟩ := hW
  have hA : DataW.TrodAll enc Tryd.prog W 0 (fun _ => true) true Tryd.f8.params.toList args.toList ds p := hA0
  rw [Tryd.params8] at hA hval
  obtain ⟨v0, vs0, d0, ds0, p0, q0, hargs, rfl, rfl, h0, r0⟩ := trodAll_cons hA
  obtain ⟨rfl, rfl, rfl⟩ := trodAll_nil r0
  obtain rfl : args = #[v0] := by cases args; simp_all
  obtain ⟨rfl, rfl⟩ := trodVars_none hV
  obtain ⟨a0, rfl, rfl, rfl, w0⟩ := open_string Tryd.underlying9 (hval 0 9 v0 rfl rfl) h0
  clear hA0
  simp only [List.append_nil] at hW'
  refine (walk a0 w0 W hL).mono fun e W' ⟨he, bel⟩ => ?_
  subst he
  exact ⟨_, rfl, _, _, _, [], _, [], hW', trodAll_mk1 (shut_bool Tryd.underlying4 _), (trodAll_cons_mk (shut_string Tryd.underlying9 w0) trodAll_mk0), rfl, bel.frame _, fun h => by cases h⟩


/-- a world for the witness: the settled one, the listed variables holding what their initialisers lay -/
noncomputable def laidWorld (os : Os) : World :=
  let w0 := World.holding Tryd.prog os ⟨#[], #[], []⟩
  let put (h : Array Obj) (g : Nat) (cs : Array Value) : Array Obj := h.modify g fun
    | .cells _ t frozen => .cells cs t frozen
    | o => o
  let h1 := put w0.heap 1 ((List.range 16).flatMap fun i => [Value.int .u8 (Lib.accLo i), Value.int .u8 (Lib.accHi i)]).toArray
  let h2 := put h1 0 (Lib.firstTab.map fun z => Value.int .u8 z).toArray
  { w0 with heap := h2 }


set_option maxRecDepth 1000000 in
theorem piece0 (os : Os) (args : Array Value) : LaidIn Tryd.prog ((laidWorld os).forCall (fun _ _ => 0) ⟨#[], args, []⟩).memory [("unicode/utf8.acceptRanges", Rows.laid_unicode_utf8_acceptRanges), ("unicode/utf8.first", Rows.laid_unicode_utf8_first)] [1, 0] :=
  LaidIn.of_run [1, 0] 8 (by kernel_rfl) (by kernel_rfl) (by kernel_rfl) (by kernel_rfl)
set_option maxRecDepth 1000000 in
theorem laid_met (os : Os) (args : Array Value) : laidMet Tryd.prog Rows.fnIsNumericTokensHaveNumericShapeRow.laid ((laidWorld os).forCall (fun _ _ => 0) ⟨#[], args, []⟩).memory :=
  (piece0 os args).met
theorem witness_row (os : Os) {H : Type} (enc : TypeId × Value → H) :
    (OpenSpec.ofChange Rows.fnIsNumericTokensHaveNumericShapeSpec).preRow enc Tryd.prog Tryd.f8 Rows.fnIsNumericTokensHaveNumericShapeRow.domain false Rows.fnIsNumericTokensHaveNumericShapeRow.laid ((laidWorld os).forCall (fun _ _ => 0) ⟨#[], #[.string ByteArray.empty], []⟩).memory #[.string ByteArray.empty] := by
  have hw : (DataW.whole enc Tryd.prog ((laidWorld os).forCall (fun _ _ => 0) ⟨#[], #[.string ByteArray.empty], []⟩).memory Tryd.f8.params.toList Rows.fnIsNumericTokensHaveNumericShapeSpec.vars false (#[.string ByteArray.empty] : Array Value).toList 8).map (fun x => (x.1, x.2.1)) =
      some ([.lit (.string [])], []) := by kernel_rfl
  obtain ⟨⟨x1, x2, x3⟩, hx, hx1⟩ := Option.map_eq_some_iff.1 hw
  simp only [Prod.mk.injEq] at hx1
  obtain ⟨rfl, rfl⟩ := hx1
  exact OpenSpec.preRow_of_cond 8 hx (by kernel_rfl) (fun k hk => by cases hk) (by kernel_rfl) (laid_met os _)

set_option maxRecDepth 100000 in
theorem lifted (os : Os) (started : os.Started) (H : Type) (enc : TypeId × Value → H) (F : Stop.Interp) :
    ReturnsInHanded {} Tryd.checked os 8 .any ((OpenSpec.ofChange Rows.fnIsNumericTokensHaveNumericShapeSpec).preRow enc Tryd.prog Tryd.f8 Rows.fnIsNumericTokensHaveNumericShapeRow.domain false Rows.fnIsNumericTokensHaveNumericShapeRow.laid) (((OpenSpec.ofChange Rows.fnIsNumericTokensHaveNumericShapeSpec).at F).post enc Tryd.prog Tryd.f8 false true false false) := by
  refine returnsInHanded_of_row (C := Tryd.checked) (s := OpenSpec.ofChange Rows.fnIsNumericTokensHaveNumericShapeSpec) own started (by kernel_rfl) Tryd.func8
    (witness_row_atRef (enc := enc) (C := Tryd.checked) false (laidWorld os) #[.string ByteArray.empty] rfl (by kernel_rfl) (by kernel_rfl) (by kernel_rfl) (witness_row os enc)) ?_
  intro W base args ds gs before hval hW _ _ _ hL _ _
  exact contract H enc W base args ds gs before hval hW hL

theorem said : Rows.FnIsNumericTokensHaveNumericShapeSaid :=
  OpenClaim.holds_of_cond 8 Tryd.f8 rfl rfl rfl rfl rfl rfl rfl ⟨rfl, rfl, rfl, rfl, rfl⟩ rfl rfl rfl rfl rfl (by kernel_rfl) Tryd.func8 (by kernel_rfl)
    (of_decide_eq_true (by kernel_rfl)) (by unfold Func.isWrapper; first | (rw [if_pos (by decide +kernel)]; kernel_rfl) | (rw [if_neg (by decide +kernel)]; exact ⟨rfl, rfl⟩))
    (fun os started H enc _ F => by rw [OpenClaim.pre_eq_preRow]; exact lifted os started H enc F)

/-- No parameter wants a stand-in; the program's own looks are off: what the card asks. -/
theorem plain7 (f : FuncId) (fn : Func) (hf : Tryd.pinned.checked.prog.funcNamed Rows.fnIsNumericTokensHaveNumericShapeRow.func = some f) (hfn : Tryd.pinned.checked.prog.funcs[f]? = some fn) :
    false = Tryd.pinned.checked.prog.looks [] ∧ ∀ (j : Nat) t, fn.params[j]? = some t → Tryd.pinned.checked.prog.wantsStandIn t = false := by
  obtain rfl : f = 8 := Option.some.inj ((show Tryd.prog.funcNamed Rows.fnIsNumericTokensHaveNumericShapeRow.func = some 8 by kernel_rfl).symm.trans hf) |>.symm
  obtain rfl : fn = Tryd.f8 := (Option.some.inj (Tryd.func8.symm.trans hfn)).symm
  refine ⟨by kernel_rfl, fun j t ht => ?_⟩
  rw [Tryd.params8] at ht
  have hm := Array.mem_of_getElem? ht
  have : t = 9 := by simpa using hm
  subst this
  exact (show Tryd.prog.wantsStandIn 9 = false by kernel_rfl)

/-- the statement: the tied card -/
theorem proved : Rows.FnIsNumericTokensHaveNumericShapeCardSaid :=
  Claim7.holds_tied_plain_at .later [] _ _ _ _ said (fun _ h => by cases h) (by kernel_rfl) (fun _ h => by cases h) fnIsNumericTokensHaveNumericShape_row_tie rfl ⟨rfl, rfl⟩ (by kernel_rfl) rfl plain7 (by kernel_rfl)
#print axioms proved
end Go.Proofs.YtlbpplkanogkgaaDoor.fnIsNumericTokensHaveNumericShape
