/-
  The law's bound on its files. No statement of the seat is proved here.
-/
import Derived.Test.YtlfkdmncdafkiaaWa
namespace Go.Proofs.Ytlfkdmncdafkiaa
open Go.RowKit
set_option linter.unusedVariables false
set_option linter.unusedSimpArgs false

def FitB (fs : List Wf) (e : Ending) : Prop := ∃ b : Bool, e = .returned (.bool b) ∧ (b = true → OkE fs)
set_option maxHeartbeats 4000000 in
set_option maxRecDepth 100000 in
theorem fit_any (ao : Option Addr) (n cap : Nat) (fs : List Wf) (hn : fs.length = n) (hok : ∀ i, i < fs.length → Okz (wf fs i)) (hl : ∀ v, v < fs.length → (wf fs v).iz.length ≤ 1048576) (w : World) (hin : Fz w ao fs) :
    Calls Try.prog 5 #[.slice ao n cap] w fun e w' => FitB fs e ∧ w' = w := by
  by_cases h0 : (n : Int) > 4096
  · have h1 : decide ((4096 : Int) < (n : Int)) = true := by simp; omega
    go_enter Try.func5, Try.ntmps5
    go_wp2_with fail
    go_ret
    exact ⟨⟨false, rfl, by simp⟩, rfl⟩
  · have h1 : decide ((4096 : Int) < (n : Int)) = false := by simp; omega
    have hn4 : n ≤ 4096 := by omega
    have HOK := Lib.hid (And.intro hok (And.intro hin hn))
    have HLL := Lib.hid hl
    clear hok hin hn hl
    go_enter Try.func5, Try.ntmps5
    go_wp2_with fail
    go_loopg [3, 4] n (fun k x y wr => ∃ (q : Int) (i : Nat), x = .int .i64 q ∧ y = .int .i64 (i : Int) ∧ 0 ≤ q ∧ q ≤ 1048576 ∧ i ≤ n ∧ n - i ≤ k ∧ wr = w)
    case atStart => exact ⟨_, 0, rfl, rfl, by omega, by omega, by omega, by omega, rfl⟩
    case round =>
      obtain ⟨q, i, rfl, rfl, hq0, hq1, hi, hk, rfl⟩ := hrel
      obtain ⟨wz, rfl⟩ : ∃ wz : World, wz = wr := ⟨_, rfl⟩
      obtain ⟨gO, rfl⟩ : ∃ gO, gO = gk := ⟨_, rfl⟩
      rcases (show n = i ∨ i < n by omega) with he | hlt
      · obtain rfl := he
        go_wp2_with fail
        go_loopg [5] n (fun k y wr => ∃ (i : Nat), y = .int .i64 (i : Int) ∧ i ≤ n ∧ n - i ≤ k ∧ wr = wz ∧ Hid (∀ v, v < i → ∀ j, j < (wf fs v).iz.length → nth (wf fs v).iz j < (n : Int)))
        case atStart => exact ⟨0, rfl, by omega, by omega, rfl, Lib.hid (fun v hv => by omega)⟩
        case round =>
          obtain ⟨i, rfl, hi, hk, rfl, HC⟩ := hrel
          obtain ⟨wy, rfl⟩ : ∃ wy : World, wy = wr := ⟨_, rfl⟩
          obtain ⟨g2, rfl⟩ : ∃ g2, g2 = gk := ⟨_, rfl⟩
          rcases (show n = i ∨ i < n by omega) with he | hlt
          · obtain rfl := he
            go_wp2_with fail
            go_ret
            exact ⟨⟨true, rfl, fun _ => ⟨by rw [HOK.out.2.2]; exact hn4, fun v hv => ⟨HLL.out v hv, fun j hj => by rw [HOK.out.2.2] at hv ⊢; exact HC.out v hv j hj⟩⟩⟩, rfl⟩
          · obtain ⟨b', off, rfl, lb, hc⟩ := HOK.out.2.1.at (i := i) (by rw [HOK.out.2.2]; exact hlt)
            have c3 := hc.c3
            have hml := HLL.out i (by rw [HOK.out.2.2]; exact hlt)
            obtain ⟨m, hm⟩ : ∃ m, (wf fs i).iz.length = m := ⟨_, rfl⟩
            rw [hm] at c3 hml
            have HM := Lib.hid hm
            have HI := Lib.hid hc.im
            have w32 : IntKind.i32.wrap (n : Int) = (n : Int) := by rw [IntKind.wrap_i32]; omega
            clear hc hm
            go_wp2_with fail
            go_loopg [6] m (fun k y wr => ∃ (j : Nat), y = .int .i64 (j : Int) ∧ j ≤ m ∧ m - j ≤ k ∧ wr = wy ∧ Hid (∀ v, v < j → nth (wf fs i).iz v < (n : Int)))
            case atStart => exact ⟨0, rfl, by omega, by omega, rfl, Lib.hid (fun v hv => by omega)⟩
            case round =>
              obtain ⟨j, rfl, hj, hkj, rfl, HJ⟩ := hrel
              rcases (show m = j ∨ j < m by omega) with he | hltj
              · obtain rfl := he
                go_wp2_with fail
                go_roundg (g2 - 1)
                case measure => clear w32; omega
                case rel =>
                  refine ⟨i + 1, by go_num, by omega, by omega, rfl, Lib.hid (fun v hv j hj => ?_)⟩
                  rcases (show v < i ∨ v = i by omega) with h | rfl
                  · exact HC.out v h j hj
                  · exact HJ.out j (by rw [HM.out] at hj; exact hj)
              · obtain ⟨b2, off2, hia, lb2, ct⟩ := HI.out.at (i := j) (by rw [HM.out]; exact hltj)
                rw [hia] at c3
                obtain ⟨t, ht⟩ : ∃ t, nth (wf fs i).iz j = t := ⟨_, rfl⟩
                rw [ht] at ct
                have HT := Lib.hid ht
                clear hia ht
                by_cases htn : (n : Int) ≤ t
                · have d : decide ((n : Int) ≤ t) = true := by simp [htn]
                  go_wp2_with fail
                  go_ret
                  exact ⟨⟨false, rfl, by simp⟩, rfl⟩
                · have d : decide ((n : Int) ≤ t) = false := by simp [htn]
                  go_wp2_with fail
                  go_roundg (gk - 1)
                  case measure => clear w32; omega
                  case rel =>
                    refine ⟨j + 1, by go_num, by omega, by omega, rfl, Lib.hid (fun v hv => ?_)⟩
                    rcases (show v < j ∨ v = j by omega) with h | rfl
                    · exact HJ.out v h
                    · rw [HT.out]; clear w32; omega
      · obtain ⟨b', off, rfl, lb, hc⟩ := HOK.out.2.1.at (i := i) (by rw [HOK.out.2.2]; exact hlt)
        have c3 := hc.c3
        have hml := HLL.out i (by rw [HOK.out.2.2]; exact hlt)
        obtain ⟨m, hm⟩ : ∃ m, (wf fs i).iz.length = m := ⟨_, rfl⟩
        rw [hm] at c3 hml
        clear hc hm
        by_cases hy : q + (m : Int) * 4 > 1048576
        · have d : decide ((1048576 : Int) < q + (m : Int) * 4) = true := by simp; omega
          go_wp2_with fail
          go_ret
          exact ⟨⟨false, rfl, by simp⟩, rfl⟩
        · have d : decide ((1048576 : Int) < q + (m : Int) * 4) = false := by simp; omega
          go_wp2_with fail
          go_roundg (gO - 1)
          case measure => omega
          case rel => exact ⟨q + (m : Int) * 4, i + 1, rfl, by go_num, by omega, by omega, by omega, by omega, rfl⟩
end Go.Proofs.Ytlfkdmncdafkiaa
