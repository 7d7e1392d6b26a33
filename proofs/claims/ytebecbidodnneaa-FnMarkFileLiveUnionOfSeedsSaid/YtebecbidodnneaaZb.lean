/-
  The law's bounds: what the lengths sum to, what the files weigh. No statement of the seat is proved here.
-/
import Derived.Test.YtebecbidodnneaaWa
import Derived.Test.YtebecbidodnneaaSm
namespace Go.Proofs.Ytebecbidodnneaa
open Go.RowKit
set_option linter.unusedVariables false
set_option linter.unusedSimpArgs false

/-- the lengths of one file -/
structure Bz (z : Wf) : Prop where
  rl : z.rs.length ≤ 1048576
  pl : z.ps.length ≤ 1048576
  zl : ∀ j, j < z.ps.length → (pt z.ps j).rz.length ≤ 1048576 ∧ (pt z.ps j).dz.length ≤ 1048576
def ZbB (fs : List Wf) (n : Nat) (e : Ending) : Prop := ∃ b : Bool, e = .returned (.bool b) ∧ (b = true → n ≤ 1048576 ∧ ∀ v, v < n → Bz (wf fs v))
set_option maxHeartbeats 4000000 in
set_option maxRecDepth 100000 in
theorem zb_any (ao : Option Addr) (n cap : Nat) (fs : List Wf) (hn : fs.length = n) (a b : Int) (g : Bool) (w : World) (hin : InS w ao fs 5 FAt) :
    Calls Try.prog 4 #[.slice ao n cap, .int .u32 a, .int .u32 b, .bool g] w fun e w' => ZbB fs n e ∧ w' = w := by
  by_cases h0 : (1048576 : Int) < (n : Int)
  · go_enter Try.func4, Try.ntmps4
    go_wp2_with fail
    go_ret
    exact ⟨⟨false, rfl, by simp⟩, rfl⟩
  · have h1 : decide ((1048576 : Int) < (n : Int)) = false := by simp; omega
    have HN := Lib.hid (And.intro hn hin)
    clear hn hin
    go_enter Try.func4, Try.ntmps4
    go_wp2_with fail
    go_loopg [9, 10] n (fun k x y wr => ∃ (q : Int) (i : Nat), x = .int .i64 q ∧ y = .int .i64 (i : Int) ∧ 0 ≤ q ∧ q ≤ 1048576 ∧ i ≤ n ∧ n - i ≤ k ∧ wr = w ∧ Hid (∀ v, v < i → Bz (wf fs v)))
    case atStart => exact ⟨_, 0, rfl, rfl, by omega, by omega, by omega, by omega, rfl, Lib.hid (fun v hv => by omega)⟩
    case round =>
      obtain ⟨q, i, rfl, rfl, hq0, hq1, hi, hk, rfl, HB⟩ := hrel
      obtain ⟨wz, rfl⟩ : ∃ wz : World, wz = wr := ⟨_, rfl⟩
      obtain ⟨gO, rfl⟩ : ∃ gO, gO = gk := ⟨_, rfl⟩
      rcases (show n = i ∨ i < n by omega) with he | hlt
      · obtain rfl := he
        go_wp2_with fail
        go_ret
        exact ⟨⟨true, rfl, fun _ => ⟨by omega, HB.out⟩⟩, rfl⟩
      · obtain ⟨b', off, rfl, lb, ra, rc, pa, pc, _, _, _, c3, c4, _, hps⟩ := HN.out.2.at (i := i) (by rw [HN.out.1]; exact hlt)
        change wz.cell? ⟨b', off + i * 5 + 3, none⟩ = some (.slice ra (wf fs i).rs.length rc) at c3
        change wz.cell? ⟨b', off + i * 5 + 4, none⟩ = some (.slice pa (wf fs i).ps.length pc) at c4
        change InS wz pa (wf fs i).ps 4 PAt at hps
        obtain ⟨z, hz⟩ : ∃ z, wf fs i = z := ⟨_, rfl⟩
        rw [hz] at c3 c4 hps
        obtain ⟨m1, hm1⟩ : ∃ m, z.rs.length = m := ⟨_, rfl⟩
        obtain ⟨m2, hm2⟩ : ∃ m, z.ps.length = m := ⟨_, rfl⟩
        rw [hm1] at c3
        rw [hm2] at c4
        have HM := Lib.hid (And.intro hz (And.intro hm1 (And.intro hm2 hps)))
        clear hz hm1 hm2 hps
        by_cases t1 : (1048576 : Int) < (m1 : Int)
        · go_wp2_with fail
          go_ret
          exact ⟨⟨false, rfl, by simp⟩, rfl⟩
        by_cases t2 : (1048576 : Int) < q + (m1 : Int)
        · go_wp2_with fail
          go_ret
          exact ⟨⟨false, rfl, by simp⟩, rfl⟩
        by_cases t3 : (1048576 : Int) < (m2 : Int)
        · go_wp2_with fail
          go_ret
          exact ⟨⟨false, rfl, by simp⟩, rfl⟩
        by_cases t4 : (1048576 : Int) < q + (m1 : Int) + (m2 : Int)
        · go_wp2_with fail
          go_ret
          exact ⟨⟨false, rfl, by simp⟩, rfl⟩
        go_wp2_with fail
        go_loopg [9, 11] m2 (fun k x y wr => ∃ (q : Int) (j : Nat), x = .int .i64 q ∧ y = .int .i64 (j : Int) ∧ 0 ≤ q ∧ q ≤ 1048576 ∧ j ≤ m2 ∧ m2 - j ≤ k ∧ wr = wz ∧ Hid (∀ v, v < j → (pt z.ps v).rz.length ≤ 1048576 ∧ (pt z.ps v).dz.length ≤ 1048576))
        case atStart => exact ⟨_, 0, rfl, rfl, by omega, by omega, by omega, by omega, rfl, Lib.hid (fun v hv => by omega)⟩
        case round =>
          obtain ⟨p, j, rfl, rfl, hp0, hp1, hj, hkj, rfl, HJ⟩ := hrel
          obtain ⟨wy, rfl⟩ : ∃ wy : World, wy = wr := ⟨_, rfl⟩
          rcases (show m2 = j ∨ j < m2 by omega) with he | hltj
          · obtain rfl := he
            go_wp2_with fail
            go_roundg (gO - 1)
            case measure => omega
            case rel =>
              refine ⟨p, i + 1, rfl, by go_num, by omega, by omega, by omega, by omega, rfl, Lib.hid (fun v hv => ?_)⟩
              rcases (show v < i ∨ v = i by omega) with h | rfl
              · exact HB.out v h
              · rw [HM.out.1]
                exact ⟨by rw [HM.out.2.1]; omega, by rw [HM.out.2.2.1]; omega, fun j hj => HJ.out j (by rw [HM.out.2.2.1] at hj; exact hj)⟩
          · obtain ⟨b2, off2, rfl, lb2, ia, ic, da, dc, k0, k1, _, _, _, _⟩ := HM.out.2.2.2.at (i := j) (by rw [HM.out.2.2.1]; exact hltj)
            change wy.cell? ⟨b2, off2 + j * 4, none⟩ = some (.slice ia (pt z.ps j).rz.length ic) at k0
            change wy.cell? ⟨b2, off2 + j * 4 + 1, none⟩ = some (.slice da (pt z.ps j).dz.length dc) at k1
            obtain ⟨m3, hm3⟩ : ∃ m, (pt z.ps j).rz.length = m := ⟨_, rfl⟩
            obtain ⟨m4, hm4⟩ : ∃ m, (pt z.ps j).dz.length = m := ⟨_, rfl⟩
            rw [hm3] at k0
            rw [hm4] at k1
            have HK := Lib.hid (And.intro hm3 hm4)
            clear hm3 hm4
            by_cases s1 : (1048576 : Int) < (m3 : Int)
            · go_wp2_with fail
              go_ret
              exact ⟨⟨false, rfl, by simp⟩, rfl⟩
            by_cases s2 : (1048576 : Int) < p + (m3 : Int)
            · go_wp2_with fail
              go_ret
              exact ⟨⟨false, rfl, by simp⟩, rfl⟩
            by_cases s3 : (1048576 : Int) < (m4 : Int)
            · go_wp2_with fail
              go_ret
              exact ⟨⟨false, rfl, by simp⟩, rfl⟩
            by_cases s4 : (1048576 : Int) < p + (m3 : Int) + (m4 : Int)
            · go_wp2_with fail
              go_ret
              exact ⟨⟨false, rfl, by simp⟩, rfl⟩
            go_wp2_with fail
            go_roundg (gk - 1)
            case measure => omega
            case rel =>
              refine ⟨p + (m3 : Int) + (m4 : Int), j + 1, rfl, by go_num, by omega, by omega, by omega, by omega, rfl, Lib.hid (fun v hv => ?_)⟩
              rcases (show v < j ∨ v = j by omega) with h | rfl
              · exact HJ.out v h
              · rw [HK.out.1, HK.out.2]; omega
def SzB (e : Ending) : Prop := ∃ q : Int, e = .returned (.int .i64 q)
set_option maxHeartbeats 4000000 in
set_option maxRecDepth 100000 in
theorem sz_any (ao : Option Addr) (n cap : Nat) (fs : List Wf) (hn : fs.length = n) (hn20 : n ≤ 1048576) (hbz : ∀ v, v < n → Bz (wf fs v)) (w : World) (hin : InS w ao fs 5 FAt) :
    Calls Try.prog 5 #[.slice ao n cap] w fun e w' => SzB e ∧ w' = w := by
  have HN := Lib.hid (And.intro hn (And.intro hin hbz))
  clear hn hin hbz
  go_enter Try.func5, Try.ntmps5
  go_wp2_with fail
  go_loopg [3, 4] n (fun k x y wr => ∃ (q : Int) (i : Nat), x = .int .i64 q ∧ y = .int .i64 (i : Int) ∧ 0 ≤ q ∧ q ≤ 1073741824 ∧ i ≤ n ∧ n - i ≤ k ∧ wr = w)
  case atStart => exact ⟨_, 0, rfl, rfl, by omega, by omega, by omega, by omega, rfl⟩
  case round =>
    obtain ⟨q, i, rfl, rfl, hq0, hq1, hi, hk, rfl⟩ := hrel
    obtain ⟨wz, rfl⟩ : ∃ wz : World, wz = wr := ⟨_, rfl⟩
    obtain ⟨gO, rfl⟩ : ∃ gO, gO = gk := ⟨_, rfl⟩
    rcases (show n = i ∨ i < n by omega) with he | hlt
    · obtain rfl := he
      go_wp2_with fail
      go_ret
      exact ⟨⟨q, rfl⟩, rfl⟩
    · obtain ⟨b', off, rfl, lb, ra, rc, pa, pc, _, _, _, c3, c4, _, hps⟩ := HN.out.2.1.at (i := i) (by rw [HN.out.1]; exact hlt)
      change wz.cell? ⟨b', off + i * 5 + 3, none⟩ = some (.slice ra (wf fs i).rs.length rc) at c3
      change wz.cell? ⟨b', off + i * 5 + 4, none⟩ = some (.slice pa (wf fs i).ps.length pc) at c4
      change InS wz pa (wf fs i).ps 4 PAt at hps
      have hbz := HN.out.2.2 i hlt
      obtain ⟨z, hz⟩ : ∃ z, wf fs i = z := ⟨_, rfl⟩
      rw [hz] at c3 c4 hps hbz
      obtain ⟨m1, hm1⟩ : ∃ m, z.rs.length = m := ⟨_, rfl⟩
      obtain ⟨m2, hm2⟩ : ∃ m, z.ps.length = m := ⟨_, rfl⟩
      rw [hm1] at c3
      rw [hm2] at c4
      have b1 : m1 ≤ 1048576 := by rw [← hm1]; exact hbz.rl
      have b2 : m2 ≤ 1048576 := by rw [← hm2]; exact hbz.pl
      have HM := Lib.hid (And.intro hbz (And.intro hm1 (And.intro hm2 hps)))
      clear hz hm1 hm2 hps hbz
      by_cases t1 : (2097152 : Int) < q
      · go_wp2_with fail
        go_ret
        exact ⟨⟨q, rfl⟩, rfl⟩
      go_wp2_with fail
      go_loopg [3, 5] m2 (fun k x y wr => ∃ (q : Int) (j : Nat), x = .int .i64 q ∧ y = .int .i64 (j : Int) ∧ 0 ≤ q ∧ q ≤ 1073741824 ∧ j ≤ m2 ∧ m2 - j ≤ k ∧ wr = wz)
      case atStart => exact ⟨_, 0, rfl, rfl, by omega, by omega, by omega, by omega, rfl⟩
      case round =>
        obtain ⟨p, j, rfl, rfl, hp0, hp1, hj, hkj, rfl⟩ := hrel
        obtain ⟨wy, rfl⟩ : ∃ wy : World, wy = wr := ⟨_, rfl⟩
        rcases (show m2 = j ∨ j < m2 by omega) with he | hltj
        · obtain rfl := he
          go_wp2_with fail
          go_roundg (gO - 1)
          case measure => omega
          case rel => exact ⟨p, i + 1, rfl, by go_num, by omega, by omega, by omega, by omega, rfl⟩
        · obtain ⟨b2, off2, rfl, lb2, ia, ic, da, dc, k0, k1, _, _, _, _⟩ := HM.out.2.2.2.at (i := j) (by rw [HM.out.2.2.1]; exact hltj)
          change wy.cell? ⟨b2, off2 + j * 4, none⟩ = some (.slice ia (pt z.ps j).rz.length ic) at k0
          change wy.cell? ⟨b2, off2 + j * 4 + 1, none⟩ = some (.slice da (pt z.ps j).dz.length dc) at k1
          have hzl := HM.out.1.zl j (by rw [HM.out.2.2.1]; exact hltj)
          obtain ⟨m3, hm3⟩ : ∃ m, (pt z.ps j).rz.length = m := ⟨_, rfl⟩
          obtain ⟨m4, hm4⟩ : ∃ m, (pt z.ps j).dz.length = m := ⟨_, rfl⟩
          rw [hm3] at k0 hzl
          rw [hm4] at k1 hzl
          obtain ⟨b3, b4⟩ := hzl
          clear hm3 hm4
          by_cases s1 : (2097152 : Int) < p
          · go_wp2_with fail
            go_ret
            exact ⟨⟨p, rfl⟩, rfl⟩
          go_wp2_with fail
          go_roundg (gk - 1)
          case measure => omega
          case rel => exact ⟨p + (m3 : Int) * 4 + (m4 : Int) * 8, j + 1, rfl, by go_num, by omega, by omega, by omega, by omega, rfl⟩
end Go.Proofs.Ytebecbidodnneaa
