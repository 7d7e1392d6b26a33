/-
  The law's own readers: a digit's value, the end of a segment. No statement of the seat is proved here.
-/
import Derived.Test.YtlllfljdagjknaaDoorRows
import Derived.Test.YtlllfljdagjknaaDoorEnc
import Derived.Test.YtlllfljdagjknaaDoorCq
import Derived.Test.YtlllfljdagjknaaDoorReg
import Derived.Deep.CutBlock
import Derived.Deep.DeepCutAuto
import Derived.Deep.LoopGhost
namespace Go.Proofs.YtlllfljdagjknaaDoor
open Go.RowKit
set_option linter.unusedVariables false
theorem bi_any (c : Int) (w : World) (h0 : 0 ≤ c) (h1 : c ≤ 255) : Calls Tryd.prog 18 #[.int .u8 c] w fun e w' => e = .returned (.int .i64 (bi c)) ∧ w = w' := by
  obtain ⟨r, hr⟩ : ∃ r, r = bi c := ⟨_, rfl⟩
  rw [← hr]
  have HR := Lib.hid hr
  clear hr
  by_cases k1 : 65 ≤ c ∧ c ≤ 90
  · obtain ⟨k1, k2⟩ := k1
    go_enter Tryd.func18, Tryd.ntmps18
    go_wp2
    go_ret
    exact ⟨ret_int (by rw [HR.out, bi, if_pos ⟨k1, k2⟩]), rfl⟩
  by_cases k2 : 97 ≤ c ∧ c ≤ 122
  · obtain ⟨k3, k4⟩ := k2
    have d1 : ¬ c ≤ 90 := by omega
    go_enter Tryd.func18, Tryd.ntmps18
    go_wp2
    go_ret
    exact ⟨ret_int (by rw [HR.out, bi, if_neg k1, if_pos ⟨k3, k4⟩]; omega), rfl⟩
  by_cases k3 : 48 ≤ c ∧ c ≤ 57
  · obtain ⟨k4, k5⟩ := k3
    have d1 : ¬ 65 ≤ c := by omega
    have d2 : ¬ 97 ≤ c := by omega
    go_enter Tryd.func18, Tryd.ntmps18
    go_wp2
    go_ret
    exact ⟨ret_int (by rw [HR.out, bi, if_neg k1, if_neg k2, if_pos ⟨k4, k5⟩]; omega), rfl⟩
  by_cases k4 : c = 43
  · subst k4
    go_enter Tryd.func18, Tryd.ntmps18
    go_wp2
    go_ret
    exact ⟨ret_int (by rw [HR.out]; rfl), rfl⟩
  by_cases k5 : c = 47
  · subst k5
    go_enter Tryd.func18, Tryd.ntmps18
    go_wp2
    go_ret
    exact ⟨ret_int (by rw [HR.out]; rfl), rfl⟩
  have b1 : (c == 43) = false := by simpa using k4
  have b2 : (c == 47) = false := by simpa using k5
  have e : HR.out = HR.out := rfl
  have HB : Hid (bi c = -1) := Lib.hid (by rw [bi, if_neg k1, if_neg k2, if_neg k3, if_neg k4, if_neg k5])
  have hcase : c < 48 ∨ (57 < c ∧ c < 65) ∨ (90 < c ∧ c < 97) ∨ 122 < c := by omega
  clear k1 k2 k3 k4 k5 e
  rcases hcase with k | ⟨k, k'⟩ | ⟨k, k'⟩ | k
  all_goals
    go_enter Tryd.func18, Tryd.ntmps18
    go_wp2
    go_ret
    exact ⟨ret_int (by rw [HR.out, HB.out]), rfl⟩
/-- zs from k on: ys, then nothing or a separator -/
def SegAt (zs : List Int) (k : Nat) (ys : List Int) : Prop := (∀ j, j < ys.length → k + j < zs.length ∧ nth zs (k + j) = nth ys j) ∧ (k + ys.length = zs.length ∨ (k + ys.length < zs.length ∧ (nth zs (k + ys.length) = 44 ∨ nth zs (k + ys.length) = 59)))
theorem sep_any (ao : Option Addr) (cap : Nat) (zs ys : List Int) (k : Nat) (w : World) (hin : In .u8 w ao zs) (hl : zs.length ≤ 1073741824) (hs : SegAt zs k ys) (hy : ∀ x ∈ ys, B64 x) :
    Calls Tryd.prog 13 #[.slice ao zs.length cap, .int .i64 k] w fun e w' => e = .returned (.int .i64 (k + ys.length : Nat)) ∧ w = w' := by
  have HI := Lib.hid (And.intro hin (And.intro hs hy))
  have hle : k + ys.length ≤ zs.length := by rcases hs.2 with h | h <;> omega
  clear hin hs hy
  obtain ⟨n, hn⟩ : ∃ n, zs.length = n := ⟨_, rfl⟩
  rw [hn] at hle hl ⊢
  have HN := Lib.hid hn
  clear hn
  obtain ⟨e, he⟩ : ∃ e, k + ys.length = e := ⟨_, rfl⟩
  rw [he] at hle ⊢
  have HE := Lib.hid he
  have hke : k ≤ e := by omega
  clear he
  go_enter Tryd.func13, Tryd.ntmps13
  go_wp2_with fail
  go_loopg [1] (e - k) (fun g a wr => ∃ j : Nat, a = .int .i64 j ∧ k ≤ j ∧ j ≤ e ∧ e - j ≤ g ∧ w = wr)
  case atStart => exact ⟨k, rfl, Nat.le_refl _, hke, Nat.le_refl _, rfl⟩
  case round =>
    obtain ⟨j, rfl, hj1, hj2, hjg, hwr⟩ := hrel
    subst hwr
    rcases (show j = e ∨ j < e by omega) with rfl | hje
    · rcases (show j = n ∨ j < n by omega) with rfl | hjn
      · go_wp2_with fail
        go_ret
        exact ⟨rfl, rfl⟩
      · obtain ⟨b, off, hx, hb, hc⟩ := HI.out.1.at (i := j) (by rw [HN.out]; exact hjn)
        subst hx
        have hz : nth zs j = 44 ∨ nth zs j = 59 := by
          rcases HI.out.2.1.2 with h | h
          · have := HN.out; have := HE.out; omega
          · rw [HE.out] at h; exact h.2
        rcases hz with hz | hz
        all_goals
          rw [hz] at hc
          clear hz
          go_wp2_with fail
          go_ret
          exact ⟨rfl, rfl⟩
    · obtain ⟨b, off, hx, hb, hc⟩ := HI.out.1.at (i := j) (by have := HN.out; omega)
      subst hx
      have hB : B64 (nth zs j) := by
        obtain ⟨d, rfl⟩ := Nat.exists_eq_add_of_le hj1
        rw [(HI.out.2.1.1 d (by have := HE.out; omega)).2]
        exact HI.out.2.2 _ (nth_mem _ _ (by have := HE.out; omega))
      obtain ⟨c, hcc⟩ : ∃ c, nth zs j = c := ⟨_, rfl⟩
      rw [hcc] at hc hB
      obtain ⟨b1, b2, b3, b4⟩ := hB
      have f1 : (c != 44) = true := bne_iff_ne.2 b3
      have f2 : (c != 59) = true := bne_iff_ne.2 b4
      have g1 : (c == 44) = false := beq_eq_false_iff_ne.2 b3
      have g2 : (c == 59) = false := beq_eq_false_iff_ne.2 b4
      have hjn : j < n := by omega
      clear hcc b1 b2 b3 b4
      go_wp2_with fail
      go_roundg (e - (j + 1))
      case measure => omega
      case rel => exact ⟨j + 1, by go_num, by omega, hje, Nat.le_refl _, rfl⟩
end Go.Proofs.YtlllfljdagjknaaDoor
