/-
  The law's small functions, second part: the closing style tag, the quote, equal bytes. No statement of the seat is proved here.
-/
import Derived.Test.YtemohaonhcmpkaaFmtZl
namespace Go.Proofs.YtemohaonhcmpkaaFmt
open Go.RowKit
set_option linter.unusedVariables false
set_option linter.unusedSimpArgs false

theorem gb_trans0 {a b c : World} (h : a.grownBy b none) (k : b.grownBy c none) : a.grownBy c none := gb_trans h k
def OpE (t : ByteArray) (i : Nat) (w : World) (e : Ending) (w' : World) : Prop := e = .returned (.bool (opn t i)) ∧ w.grownBy w' none
theorem styGet (k : Nat) (h : k < 5) : ((⟨#[115, 116, 121, 108, 101]⟩ : ByteArray)[k]'h).toNat = sty k := by
  rcases (show k = 0 ∨ k = 1 ∨ k = 2 ∨ k = 3 ∨ k = 4 by omega) with rfl | rfl | rfl | rfl | rfl <;> rfl
set_option maxHeartbeats 4000000 in
set_option maxRecDepth 100000 in
theorem op_any (t : ByteArray) (ht : t.size ≤ 1048576) (i : Nat) (hi : i < t.size) (w : World) : Calls Tryf.prog 11 #[.string t, .int .i64 (i : Int)] w (OpE t i w) := by
  obtain ⟨n, hn⟩ : ∃ n, t.size = n := ⟨_, rfl⟩
  rw [hn] at ht hi
  have HN := Lib.hid hn
  rcases (show i = 0 ∨ 1 ≤ i by omega) with hi0 | hi1
  · have hop : opn t i = false := by unfold opn; rw [hi0]; rfl
    have HOP := Lib.hid hop
    have e1 : decide ((i : Int) < 1) = true := by simp; omega
    have e2 : decide (i < 1) = true := by simp; omega
    clear hop hi0
    go_enter Tryf.func11, Tryf.ntmps11
    go_wp2_with fail
    go_ret
    exact ⟨by rw [HOP.out]; rfl, gb_refl _ _⟩
  · obtain ⟨k1, hk1⟩ : ∃ k1, i = k1 + 1 := ⟨i - 1, by omega⟩
    have hik : (i : Int) - 1 = (k1 : Int) := by omega
    have e1 : decide ((i : Int) < 1) = false := by simp; omega
    have e2 : decide (i < 1) = false := by simp; omega
    have hkt : k1 < t.size := by omega
    have hx := byteAt_get t k1 hkt
    have hop1 : opn t i = ((byteAt t k1 == 60) && decide (i + 6 ≤ n) && lowsty t (i + 1) 5) := by
      unfold opn
      rw [show decide (1 ≤ i) = true by simp; omega, show i - 1 = k1 by omega, hn]; simp
    obtain ⟨y, hy⟩ : ∃ y, byteAt t k1 = y := ⟨_, rfl⟩
    rw [hy] at hx hop1
    clear hk1 hy
    by_cases hy60 : y = 60
    · subst hy60
      by_cases h6 : i + 6 ≤ n
      · have hop : opn t i = lowsty t (i + 1) 5 := by rw [hop1, show decide (i + 6 ≤ n) = true by simp; omega]; simp
        have HOP := Lib.hid hop
        have e3 : decide ((n : Int) < (i : Int) + 6) = false := by simp; omega
        have e4 : decide (n < i + 6) = false := by simp; omega
        clear hop hop1
        obtain ⟨i1, hi1'⟩ : ∃ i1 : Nat, (i : Int) + 1 = (i1 : Int) := ⟨i + 1, by omega⟩
        go_enter Tryf.func11, Tryf.ntmps11
        go_wp2_with fail
        clear hx e1 e2 e3 e4 hkt hik
        go_loopg [6] 5 (fun g x wx => ∃ k : Nat, x = .int .i64 (k : Int) ∧ k ≤ 5 ∧ 5 - k ≤ g ∧ Hid ((∀ j, j < k → low (byteAt t (i + 1 + j)) = sty j) ∧ w.grownBy wx none))
        case atStart => exact ⟨0, rfl, by omega, by omega, Lib.hid ⟨fun j hj => by omega, gb_refl _ _⟩⟩
        case round =>
          obtain ⟨k, rfl, hk, hg, HK⟩ := hrel
          obtain ⟨wz, rfl⟩ : ∃ wz : World, wz = wr := ⟨_, rfl⟩
          rcases (show 5 = k ∨ k < 5 by omega) with he | hlt
          · subst he
            go_wp2_with fail
            go_ret
            refine ⟨?_, HK.out.2⟩
            rw [HOP.out]
            have : lowsty t (i + 1) 5 = true := by
              unfold lowsty
              rw [List.all_eq_true]
              intro j hj
              rw [HK.out.1 j (List.mem_range.1 hj)]
              simp
            rw [this]; rfl
          · obtain ⟨k3, hk3⟩ : ∃ k3 : Nat, (i1 : Int) + (k : Int) = (k3 : Int) := ⟨i1 + k, by omega⟩
            have hk3t : k3 < t.size := by omega
            have hx3 := byteAt_get t k3 hk3t
            have hy3 := styGet k hlt
            have HE3 : Hid (byteAt t (i + 1 + k) = byteAt t k3) := Lib.hid (by congr 1; omega)
            obtain ⟨b, hb⟩ : ∃ b, byteAt t k3 = b := ⟨_, rfl⟩
            have hb256 : b < 256 := by rw [← hb]; exact byteAt_lt t k3
            have HLW := Lib.hid (fun w => lw_any b hb256 w)
            rw [hb] at hx3 HE3
            obtain ⟨l, hl⟩ : ∃ l, low b = l := ⟨_, rfl⟩
            obtain ⟨z, hz⟩ : ∃ z, sty k = z := ⟨_, rfl⟩
            rw [hl] at HLW
            rw [hz] at hy3
            have HLZ := Lib.hid (And.intro hl hz)
            have hkI : (k : Int) < 5 := by omega
            have hk3I : (k3 : Int) < (n : Int) := by omega
            clear hb hl hz hb256
            by_cases hlz : l = z
            · subst hlz
              go_upto_region 7 with fail
              go_quiet ((go_at_call 13; exact Calls.quiet_of_same (HLW.out _)))
              go_wp2_with fail
              go_roundg (gk - 1)
              case measure => omega
              case rel =>
                refine ⟨k + 1, by go_num, by omega, by omega, Lib.hid ⟨fun j hj => ?_, gb_trans0 HK.out.2 (gb_drewN0 _ _)⟩⟩
                rcases (show j < k ∨ j = k by omega) with h | rfl
                · exact HK.out.1 j h
                · rw [HE3.out, HLZ.out.1, HLZ.out.2]
            · have e5 : ((l : Int) == (z : Int)) = false := by simp; omega
              have HNE := Lib.hid hlz
              clear hlz
              go_upto_region 7 with fail
              go_quiet ((go_at_call 13; exact Calls.quiet_of_same (HLW.out _)))
              go_wp2_with fail
              go_ret
              refine ⟨?_, gb_trans0 HK.out.2 (gb_drewN0 _ _)⟩
              rw [HOP.out]
              have : lowsty t (i + 1) 5 = false := by
                cases h : lowsty t (i + 1) 5 with
                | false => rfl
                | true =>
                  unfold lowsty at h
                  have h2 := List.all_eq_true.1 h k (List.mem_range.2 hlt)
                  rw [HE3.out, HLZ.out.1, HLZ.out.2] at h2
                  exact absurd (by simpa using h2) HNE.out
              rw [this]; rfl
      · have hop : opn t i = false := by rw [hop1, show decide (i + 6 ≤ n) = false by simp; omega]; rfl
        have HOP := Lib.hid hop
        have e3 : decide ((n : Int) < (i : Int) + 6) = true := by simp; omega
        have e4 : decide (n < i + 6) = true := by simp; omega
        clear hop hop1 h6
        go_enter Tryf.func11, Tryf.ntmps11
        go_wp2_with fail
        go_ret
        exact ⟨by rw [HOP.out]; rfl, gb_refl _ _⟩
    · have hop : opn t i = false := by rw [hop1, show (y == 60) = false by simp [hy60]]; rfl
      have HOP := Lib.hid hop
      have e3 : ((y : Int) == 60) = false := by simp; omega
      have e4 : ¬ (y : Int) = 60 := by omega
      clear hop hop1
      go_enter Tryf.func11, Tryf.ntmps11
      go_wp2_with fail
      go_ret
      exact ⟨by rw [HOP.out]; rfl, gb_refl _ _⟩
/-- the quote that the text asks for -/
def qof (t : ByteArray) : Nat := if cntq isS t.data.toList < cntq isD t.data.toList then 39 else 34
theorem qof_is (t : ByteArray) : qof t = 34 ∨ qof t = 39 := by unfold qof; split <;> simp
theorem qof_best (t : ByteArray) : quoteOf false (cntq isS t.data.toList) (cntq isD t.data.toList) (cntq isU t.data.toList) = (qof t : Int) := by
  unfold quoteOf qof
  rw [if_neg (by simp)]
  split <;> rfl
set_option maxHeartbeats 4000000 in
set_option maxRecDepth 100000 in
theorem pf_any (t : ByteArray) (ht : t.size ≤ 1048576) (w : World) : Calls Tryf.prog 8 #[.string t] w fun e w' => e = .returned (.int .u8 (qof t : Int)) ∧ w' = w := by
  obtain ⟨n, hn⟩ : ∃ n, t.size = n := ⟨_, rfl⟩
  rw [hn] at ht
  have HN := Lib.hid hn
  go_enter Tryf.func8, Tryf.ntmps8
  go_wp2_with fail
  go_loopg [3, 4, 5] n (fun g x y z wx => wx = w ∧ ∃ i a b : Nat, x = .int .i64 (a : Int) ∧ y = .int .i64 (b : Int) ∧ z = .int .i64 (i : Int) ∧ i ≤ n ∧ n - i ≤ g ∧ a ≤ i ∧ b ≤ i ∧ Hid (a = cntq isS (t.data.toList.take i) ∧ b = cntq isD (t.data.toList.take i)))
  case atStart => exact ⟨rfl, 0, 0, 0, rfl, rfl, rfl, by omega, by omega, by omega, by omega, Lib.hid ⟨rfl, rfl⟩⟩
  case round =>
    obtain ⟨hw, i, a, b, rfl, rfl, rfl, hi, hg, ha, hb, HC⟩ := hrel
    obtain rfl := hw.symm
    rcases (show n = i ∨ i < n by omega) with he | hlt
    · subst he
      have HQ : Hid (qof t = if a < b then 39 else 34) := Lib.hid (by
        unfold qof
        have h := HC.out
        rw [take_all t n (by rw [HN.out]; exact Nat.le_refl _)] at h
        rw [← h.1, ← h.2])
      by_cases hab : a < b
      · have d1 : decide ((a : Int) < (b : Int)) = true := by simp; omega
        have d2 : decide (a < b) = true := by simp; omega
        have HQ2 : Hid (qof t = 39) := Lib.hid (by rw [HQ.out, if_pos hab])
        go_wp2_with fail
        go_ret
        exact ⟨by rw [HQ2.out]; rfl, rfl⟩
      · have d1 : decide ((a : Int) < (b : Int)) = false := by simp; omega
        have d2 : decide (a < b) = false := by simp; omega
        have HQ2 : Hid (qof t = 34) := Lib.hid (by rw [HQ.out, if_neg hab])
        clear hab
        go_wp2_with fail
        go_ret
        exact ⟨by rw [HQ2.out]; rfl, rfl⟩
    · have his : i < t.size := by omega
      have hx := byteAt_get t i his
      have HS := Lib.hid (cnt_snoc isS t i his)
      have HD := Lib.hid (cnt_snoc isD t i his)
      rw [hx] at HS HD
      obtain ⟨c, hc⟩ : ∃ c, byteAt t i = c := ⟨_, rfl⟩
      rw [hc] at hx HS HD
      clear hc
      by_cases h39 : c = 39
      · subst h39
        go_wp2_with fail
        go_roundg (gk - 1)
        case measure => omega
        case rel => exact ⟨rfl, i + 1, a + 1, b, by go_num, rfl, by go_num, by omega, by omega, by omega, by omega, Lib.hid ⟨by rw [HS.out, ← HC.out.1]; rfl, by rw [HD.out, ← HC.out.2]; rfl⟩⟩
      · by_cases h34 : c = 34
        · subst h34
          go_wp2_with fail
          go_roundg (gk - 1)
          case measure => omega
          case rel => exact ⟨rfl, i + 1, a, b + 1, rfl, by go_num, by go_num, by omega, by omega, by omega, by omega, Lib.hid ⟨by rw [HS.out, ← HC.out.1]; rfl, by rw [HD.out, ← HC.out.2]; rfl⟩⟩
        · have e1 : ((c : Int) == 39) = false := by simp; omega
          have e2 : ((c : Int) == 34) = false := by simp; omega
          have HNE := Lib.hid (And.intro h39 h34)
          clear h39 h34
          go_wp2_with fail
          go_roundg (gk - 1)
          case measure => omega
          case rel =>
            refine ⟨rfl, i + 1, a, b, rfl, rfl, by go_num, by omega, by omega, by omega, by omega, Lib.hid ⟨?_, ?_⟩⟩
            · rw [HS.out, ← HC.out.1, if_neg (by simp [isS]; exact HNE.out.1)]; rfl
            · rw [HD.out, ← HC.out.2, if_neg (by simp [isD]; exact HNE.out.2)]; rfl
set_option maxHeartbeats 4000000 in
set_option maxRecDepth 100000 in
theorem sm_any (ao bo : Option Addr) (c d : Nat) (zs : List Int) (n : Nat) (hn : zs.length = n) (hl : n ≤ 8388608) (w : World) (ha : In .u8 w ao zs) (hb : In .u8 w bo zs) :
    Calls Tryf.prog 10 #[.slice ao n c, .slice bo n d] w fun e w' => e = .returned (.bool true) ∧ w.grownBy w' none := by
  have H := Lib.hid (And.intro ha (And.intro hb hn))
  clear ha hb hn
  go_enter Tryf.func10, Tryf.ntmps10
  go_wp2_with fail
  go_loopg [5] n (fun g x wx => ∃ i : Nat, x = .int .i64 (i : Int) ∧ i ≤ n ∧ n - i ≤ g ∧ Hid (w.grownBy wx none))
  case atStart => exact ⟨0, rfl, by omega, by omega, Lib.hid (gb_refl _ _)⟩
  case round =>
    obtain ⟨i, rfl, hi, hg, HG⟩ := hrel
    obtain ⟨wz, rfl⟩ : ∃ wz : World, wz = wr := ⟨_, rfl⟩
    rcases (show n = i ∨ i < n by omega) with he | hlt
    · subst he
      go_wp2_with fail
      go_ret
      exact ⟨rfl, HG.out⟩
    · obtain ⟨b1, o1, hA, lb1, k1⟩ := (H.out.1.kept (below_of0 HG.out)).at (i := i) (by rw [H.out.2.2]; exact hlt)
      obtain ⟨b2, o2, hB, lb2, k2⟩ := (H.out.2.1.kept (below_of0 HG.out)).at (i := i) (by rw [H.out.2.2]; exact hlt)
      subst hA hB
      obtain ⟨z, hz⟩ : ∃ z, nth zs i = z := ⟨_, rfl⟩
      rw [hz] at k1 k2
      have hiI : (i : Int) < (n : Int) := by omega
      clear hz
      go_upto_region 6 with fail
      go_quiet (fail)
      go_wp2_with fail
      go_roundg (gk - 1)
      case measure => omega
      case rel => exact ⟨i + 1, by go_num, by omega, by omega, Lib.hid (gb_trans0 HG.out (gb_drewN0 _ _))⟩
end Go.Proofs.YtemohaonhcmpkaaFmt
