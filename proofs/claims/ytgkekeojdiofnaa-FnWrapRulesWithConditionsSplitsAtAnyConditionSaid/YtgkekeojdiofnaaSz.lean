/-
  The size checks, walked. No statement of the seat is proved here.
-/
import Derived.Test.YtgkekeojdiofnaaCa
import Derived.WalkSmall
namespace Go.Proofs.Ytgkekeojdiofnaa
open Go.RowKit
set_option linter.unusedVariables false
set_option linter.unusedSimpArgs false

def RetB (e : Ending) : Prop := ∃ b : Bool, e = .returned (.bool b)
set_option maxHeartbeats 1000000 in
set_option maxRecDepth 100000 in
theorem zb_any (ao : Option Addr) (n cap : Nat) (cs : List Cz) (nr k : Int) (w : World) (hin : Cs w ao cs) (hn : cs.length = n) :
    Calls Try.prog 4 #[.int .i64 nr, .slice ao n cap, .int .i64 k] w fun e w' => RetB e ∧ w' = w := by
  by_cases h0 : (n : Int) > 1048576
  · go_enter Try.func4, Try.ntmps4
    go_wp2_with fail
    go_ret
    exact ⟨⟨false, rfl⟩, rfl⟩
  · have h1 : decide ((1048576 : Int) < (n : Int)) = false := by simp; omega
    have HN := Lib.hid hn

    go_enter Try.func4, Try.ntmps4
    go_wp2_with fail
    go_loopg [7, 8] n (fun k x y wr => ∃ (q : Int) (i : Nat), x = .int .i64 q ∧ y = .int .i64 (i : Int) ∧ i ≤ n ∧ n - i ≤ k ∧ wr = w)
    case atStart => exact ⟨_, 0, rfl, rfl, by omega, by omega, rfl⟩
    case round =>
      obtain ⟨q, i, rfl, rfl, hi, hk, rfl⟩ := hrel
      rcases (show n = i ∨ i < n by omega) with he | hlt
      · obtain rfl := he
        go_wp2_with fail
        go_ret
        exact ⟨⟨true, rfl⟩, rfl⟩
      · obtain ⟨b', off, rfl, _, hc⟩ := hin.at (i := i) (by rw [HN.out]; exact hlt)
        obtain ⟨la, lc, c0, _⟩ := hc.c0
        obtain ⟨m, hm⟩ : ∃ m, (cz cs i).ls.length = m := ⟨_, rfl⟩
        rw [hm] at c0
        clear hc hm
        by_cases h2 : (m : Int) > 1048576
        · have h3 : decide ((1048576 : Int) < (m : Int)) = true := by simp; omega
          go_wp2_with fail
          go_ret
          exact ⟨⟨false, rfl⟩, rfl⟩
        · have h3 : decide ((1048576 : Int) < (m : Int)) = false := by simp; omega
          obtain ⟨y, hy⟩ : ∃ y, IntKind.i64.wrap (q + (m : Int)) = y := ⟨_, rfl⟩
          by_cases h4 : y > 1048576
          · have h5 : decide ((1048576 : Int) < y) = true := by simp; omega
            go_wp2_with fail
            go_ret
            exact ⟨⟨false, rfl⟩, rfl⟩
          · have h5 : decide ((1048576 : Int) < y) = false := by simp; omega
            go_wp2_with fail
            go_roundg (n - (i + 1))
            case measure => omega
            case rel => exact ⟨y, i + 1, rfl, by go_num, hlt, Nat.le_refl _, rfl⟩
def OkC (cs : List Cz) : Prop := cs.length ≤ 4096 ∧ ∀ i, i < cs.length → (cz cs i).ls.length ≤ 65536 ∧ 0 ≤ (cz cs i).sn ∧ (cz cs i).sn ≤ 65536
def SzB (nr : Int) (cs : List Cz) (e : Ending) : Prop := ∃ b : Bool, e = .returned (.bool b) ∧ (b = true → 0 ≤ nr ∧ nr ≤ 65536 ∧ OkC cs)
set_option maxHeartbeats 2000000 in
set_option maxRecDepth 100000 in
theorem sz_any (ao : Option Addr) (n cap : Nat) (cs : List Cz) (nr : Int) (hn : cs.length = n) (w : World) (hin : Cs w ao cs) :
    Calls Try.prog 5 #[.int .i64 nr, .slice ao n cap] w fun e w' => SzB nr cs e ∧ Below w.heap.size w w' := by
  by_cases r0 : nr < 0
  · have d : decide (nr < 0) = true := by simp [r0]
    go_enter Try.func5, Try.ntmps5
    go_wp2_with fail
    go_ret
    exact ⟨⟨false, rfl, by simp⟩, Below.refl _ _⟩
  have d0 : decide (nr < 0) = false := by simp; omega
  by_cases r1 : nr > 65536
  · have d : decide (65536 < nr) = true := by simp; omega
    go_enter Try.func5, Try.ntmps5
    go_wp2_with fail
    go_ret
    exact ⟨⟨false, rfl, by simp⟩, Below.refl _ _⟩
  have d1 : decide (65536 < nr) = false := by simp; omega
  by_cases r2 : (n : Int) > 4096
  · go_enter Try.func5, Try.ntmps5
    go_wp2_with fail
    go_ret
    exact ⟨⟨false, rfl, by simp⟩, Below.refl _ _⟩
  have d2 : decide ((4096 : Int) < (n : Int)) = false := by simp; omega
  have HR : Hid (0 ≤ nr ∧ nr ≤ 65536) := Lib.hid (by omega)
  have HN := Lib.hid (And.intro hn hin)
  have hn4 : n ≤ 4096 := by omega
  clear hn hin r0 r1 r2
  go_enter Try.func5, Try.ntmps5
  go_wp2_with fail
  go_loopg [5, 6, 7] n (fun k x y z wr => ∃ (q p : Int) (i : Nat), x = .int .i64 q ∧ y = .int .i64 p ∧ z = .int .i64 (i : Int) ∧ i ≤ n ∧ n - i ≤ k ∧ Hid (Below w.heap.size w wr) ∧ Hid (∀ v, v < i → (cz cs v).ls.length ≤ 65536 ∧ 0 ≤ (cz cs v).sn ∧ (cz cs v).sn ≤ 65536))
  case atStart => exact ⟨_, _, 0, rfl, rfl, rfl, by omega, by omega, Lib.hid (Below.refl _ _), Lib.hid (fun v hv => by omega)⟩
  case round =>
    obtain ⟨q, p, i, rfl, rfl, rfl, hi, hk, HB, HV⟩ := hrel
    obtain ⟨wy, rfl⟩ : ∃ wy : World, wy = wr := ⟨_, rfl⟩
    rcases (show n = i ∨ i < n by omega) with he | hlt
    · obtain rfl := he
      go_wp2_with fail
      all_goals go_ret
      all_goals exact ⟨⟨_, rfl, fun _ => ⟨HR.out.1, HR.out.2, ⟨by rw [HN.out.1]; exact hn4, fun i hi => HV.out i (by rw [HN.out.1] at hi; exact hi)⟩⟩⟩, HB.out⟩
    · obtain ⟨b', off, rfl, lb, hc⟩ := (HN.out.2.kept HB.out).at (i := i) (by rw [HN.out.1]; exact hlt)
      obtain ⟨la, lc, c0, _⟩ := hc.c0
      have c1 := hc.c1
      obtain ⟨m, hm⟩ : ∃ m, (cz cs i).ls.length = m := ⟨_, rfl⟩
      obtain ⟨s, hs⟩ : ∃ s, (cz cs i).sn = s := ⟨_, rfl⟩
      rw [hm] at c0
      rw [hs] at c1
      have HM := Lib.hid (And.intro hm hs)
      clear hc hm hs
      by_cases h2 : (m : Int) > 65536
      · have h3 : decide ((65536 : Int) < (m : Int)) = true := by simp; omega
        go_wp2_with fail
        go_ret
        exact ⟨⟨false, rfl, by simp⟩, HB.out⟩
      have h3 : decide ((65536 : Int) < (m : Int)) = false := by simp; omega
      by_cases h4 : s < 0
      · have h5 : decide (s < 0) = true := by simp [h4]
        go_wp2_with fail
        go_ret
        exact ⟨⟨false, rfl, by simp⟩, HB.out⟩
      have h5 : decide (s < 0) = false := by simp; omega
      by_cases h6 : s > 65536
      · have h7 : decide ((65536 : Int) < s) = true := by simp; omega
        go_wp2_with fail
        go_ret
        exact ⟨⟨false, rfl, by simp⟩, HB.out⟩
      have h7 : decide ((65536 : Int) < s) = false := by simp; omega
      go_wp2_with fail
      go_quiet (fail)
      go_wp2_with fail
      go_roundg (n - (i + 1))
      case measure => omega
      case rel =>
        refine ⟨_, _, i + 1, rfl, rfl, by go_num, hlt, Nat.le_refl _, ?_, Lib.hid (fun v hv => ?_)⟩
        · exact Lib.hid (below_drewN HB.out _)
        · rcases (show v < i ∨ v = i by omega) with h | rfl
          · exact HV.out v h
          · rw [HM.out.1, HM.out.2]; omega
end Go.Proofs.Ytgkekeojdiofnaa
