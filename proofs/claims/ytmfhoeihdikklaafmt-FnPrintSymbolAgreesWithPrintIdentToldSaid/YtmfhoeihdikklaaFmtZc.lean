/-
  The law's checks: sizes, well-formedness. No statement of the seat is proved here.
-/
import Derived.Test.YtmfhoeihdikklaaFmtCy
import Derived.Test.YtmfhoeihdikklaaFmtDg
import Derived.Deep.LoopGhost
namespace Go.Proofs.YtmfhoeihdikklaaFmt
open Go.RowKit
set_option linter.unusedVariables false
set_option linter.unusedSimpArgs false

def SomeBool (e : Ending) : Prop := ∃ b, e = .returned (.bool b)
/-- a check: when it says yes, F holds -/
def Chk (F : Prop) (w : World) (e : Ending) (w' : World) : Prop := (∃ b, e = .returned (.bool b) ∧ (b = true → F)) ∧ w' = w
set_option maxRecDepth 100000 in
theorem zb_any (a0 a1 a2 a3 a4 : Option Addr) (l0 l1 l2 l3 l4 p0 p1 p2 p3 p4 : Nat) (inner : Int) (asc : Bool) (ws : Int) (ts vs : List ByteArray) (h1 : ts.length = l1) (h4 : vs.length = l4) (w : World) (i1 : InS w a1 ts) (i4 : InS w a4 vs) :
    Calls Tryf.prog 4 #[.slice a0 l0 p0, .slice a1 l1 p1, .slice a2 l2 p2, .slice a3 l3 p3, .slice a4 l4 p4, .int .u32 inner, .bool asc, .int .u8 ws] w fun e w' => SomeBool e ∧ w' = w := by
  go_enter Tryf.func4, Tryf.ntmps4
  go_wp2_with fail
  all_goals first | (go_ret; exact ⟨⟨_, rfl⟩, rfl⟩) | skip
  go_loopg [17, 18] l1 (fun k a b wr => ∃ (x : Int) (i : Nat), a = .int .i64 x ∧ b = .int .i64 (i : Int) ∧ i ≤ l1 ∧ l1 - i ≤ k ∧ w = wr)
  case atStart => exact ⟨_, 0, rfl, rfl, by omega, by omega, rfl⟩
  case round =>
    obtain ⟨x, i, rfl, rfl, hi, hk, rfl⟩ := hrel
    rcases (show i = l1 ∨ i < l1 by omega) with he | hlt
    · subst he
      go_wp2_with fail
      all_goals first | (go_ret; exact ⟨⟨_, rfl⟩, rfl⟩) | skip
      go_loopg [17, 19] l4 (fun k a b wr => ∃ (x : Int) (i : Nat), a = .int .i64 x ∧ b = .int .i64 (i : Int) ∧ i ≤ l4 ∧ l4 - i ≤ k ∧ w = wr)
      case atStart => exact ⟨_, 0, rfl, rfl, by omega, by omega, rfl⟩
      case round =>
        obtain ⟨x2, j, rfl, rfl, hj, hk2, rfl⟩ := hrel
        rcases (show j = l4 ∨ j < l4 by omega) with he | hlt
        · subst he
          go_wp2_with fail
          go_ret
          exact ⟨⟨_, rfl⟩, rfl⟩
        · obtain ⟨b, off, rfl, _, hc⟩ := i4.at (i := j) (by omega)
          obtain ⟨t, ht⟩ : ∃ t, tth vs j = t := ⟨_, rfl⟩
          rw [ht] at hc
          clear ht
          go_wp2_with fail
          all_goals first
            | (go_ret; exact ⟨⟨_, rfl⟩, rfl⟩)
            | skip
          go_roundg (gk - 1)
          case measure => omega
          case rel => exact ⟨_, j + 1, rfl, by go_num, by omega, by omega, rfl⟩
    · obtain ⟨b, off, rfl, _, hc⟩ := i1.at (i := i) (by omega)
      obtain ⟨t, ht⟩ : ∃ t, tth ts i = t := ⟨_, rfl⟩
      rw [ht] at hc
      clear ht
      go_wp2_with fail
      all_goals first
        | (go_ret; exact ⟨⟨_, rfl⟩, rfl⟩)
        | skip
      go_roundg (gk - 1)
      case measure => omega
      case rel => exact ⟨_, i + 1, rfl, by go_num, by omega, by omega, rfl⟩
/-- what the sizes' check tells -/
structure Fit (l0 l1 l2 l3 l4 : Nat) (ts vs : List ByteArray) : Prop where
  n0 : l0 ≤ 1048576
  n1 : l1 ≤ 65536
  n2 : l2 ≤ 65536
  n3 : l3 ≤ 65536
  n4 : l4 ≤ 65536
  ts : ∀ i, i < l1 → (tth ts i).size ≤ 1048576
  vs : ∀ i, i < l4 → (tth vs i).size ≤ 1048576
set_option maxHeartbeats 4000000 in
set_option maxRecDepth 100000 in
theorem fit_any (a0 a1 a2 a3 a4 : Option Addr) (l0 l1 l2 l3 l4 p0 p1 p2 p3 p4 : Nat) (ts vs : List ByteArray) (h1 : ts.length = l1) (h4 : vs.length = l4) (w : World) (i1 : InS w a1 ts) (i4 : InS w a4 vs) :
    Calls Tryf.prog 5 #[.slice a0 l0 p0, .slice a1 l1 p1, .slice a2 l2 p2, .slice a3 l3 p3, .slice a4 l4 p4] w (Chk (Fit l0 l1 l2 l3 l4 ts vs) w) := by
  by_cases q : l0 ≤ 1048576 ∧ l1 ≤ 65536 ∧ l2 ≤ 65536 ∧ l3 ≤ 65536 ∧ l4 ≤ 65536
  case neg =>
    rcases (show 1048576 < l0 ∨ (l0 ≤ 1048576 ∧ 65536 < l1) ∨ (l0 ≤ 1048576 ∧ l1 ≤ 65536 ∧ 65536 < l2) ∨ (l0 ≤ 1048576 ∧ l1 ≤ 65536 ∧ l2 ≤ 65536 ∧ 65536 < l3) ∨ (l0 ≤ 1048576 ∧ l1 ≤ 65536 ∧ l2 ≤ 65536 ∧ l3 ≤ 65536 ∧ 65536 < l4) by omega) with q | ⟨q0, q⟩ | ⟨q0, q1, q⟩ | ⟨q0, q1, q2, q⟩ | ⟨q0, q1, q2, q3, q⟩
    all_goals
      go_enter Tryf.func5, Tryf.ntmps5
      go_wp2_with fail
      go_ret
      exact ⟨⟨false, rfl, fun h => by cases h⟩, rfl⟩
  obtain ⟨q0, q1, q2, q3, q4⟩ := q
  have HQ := Lib.hid (And.intro q0 (And.intro q1 (And.intro q2 (And.intro q3 q4))))
  go_enter Tryf.func5, Tryf.ntmps5
  go_wp2_with fail
  go_loopg [11, 12] l1 (fun k a b wr => ∃ (x : Int) (i : Nat), a = .int .i64 x ∧ b = .int .i64 (i : Int) ∧ i ≤ l1 ∧ l1 - i ≤ k ∧ w = wr ∧ 0 ≤ x ∧ x ≤ 4000000 ∧ Hid (∀ j, j < i → (tth ts j).size ≤ 1048576))
  case atStart => exact ⟨_, 0, rfl, rfl, by omega, by omega, rfl, by omega, by omega, Lib.hid (fun j hj => by omega)⟩
  case round =>
    obtain ⟨x, i, rfl, rfl, hi, hk, rfl, hx0, hx1, HT⟩ := hrel
    rcases (show i = l1 ∨ i < l1 by omega) with he | hlt
    · subst he
      go_wp2_with fail
      go_loopg [11, 13] l4 (fun k a b wr => ∃ (x : Int) (i : Nat), a = .int .i64 x ∧ b = .int .i64 (i : Int) ∧ i ≤ l4 ∧ l4 - i ≤ k ∧ w = wr ∧ 0 ≤ x ∧ x ≤ 4000000 ∧ Hid (∀ j, j < i → (tth vs j).size ≤ 1048576))
      case atStart => exact ⟨_, 0, rfl, rfl, by omega, by omega, rfl, hx0, hx1, Lib.hid (fun j hj => by omega)⟩
      case round =>
        obtain ⟨x2, j, rfl, rfl, hj, hk2, rfl, hy0, hy1, HV⟩ := hrel
        rcases (show j = l4 ∨ j < l4 by omega) with he | hlt
        · subst he
          go_wp2_with fail
          go_ret
          exact ⟨⟨_, rfl, fun _ => ⟨HQ.out.1, HQ.out.2.1, HQ.out.2.2.1, HQ.out.2.2.2.1, HQ.out.2.2.2.2, HT.out, HV.out⟩⟩, rfl⟩
        · obtain ⟨b, off, rfl, _, hc⟩ := i4.at (i := j) (by omega)
          obtain ⟨t, ht⟩ : ∃ t, tth vs j = t := ⟨_, rfl⟩
          rw [ht] at hc
          have HTT := Lib.hid ht
          clear ht
          by_cases s1 : t.size ≤ 1048576
          · by_cases s2 : x2 + (t.size : Int) ≤ 1048576
            · go_wp2_with fail
              go_roundg (gk - 1)
              case measure => omega
              case rel => exact ⟨_, j + 1, rfl, by go_num, by omega, by omega, rfl, by omega, by omega, Lib.hid (fun q hq => by
                by_cases e : q = j
                · subst e; rw [HTT.out]; exact s1
                · exact HV.out q (by omega))⟩
            · go_wp2_with fail
              go_ret
              exact ⟨⟨false, rfl, fun h => by cases h⟩, rfl⟩
          · go_wp2_with fail
            go_ret
            exact ⟨⟨false, rfl, fun h => by cases h⟩, rfl⟩
    · obtain ⟨b, off, rfl, _, hc⟩ := i1.at (i := i) (by omega)
      obtain ⟨t, ht⟩ : ∃ t, tth ts i = t := ⟨_, rfl⟩
      rw [ht] at hc
      have HTT := Lib.hid ht
      clear ht
      by_cases s1 : t.size ≤ 1048576
      · by_cases s2 : x + (t.size : Int) ≤ 1048576
        · go_wp2_with fail
          go_roundg (gk - 1)
          case measure => omega
          case rel => exact ⟨_, i + 1, rfl, by go_num, by omega, by omega, rfl, by omega, by omega, Lib.hid (fun q hq => by
            by_cases e : q = i
            · subst e; rw [HTT.out]; exact s1
            · exact HT.out q (by omega))⟩
        · go_wp2_with fail
          go_ret
          exact ⟨⟨false, rfl, fun h => by cases h⟩, rfl⟩
      · go_wp2_with fail
        go_ret
        exact ⟨⟨false, rfl, fun h => by cases h⟩, rfl⟩
/-- what the check of the links tells -/
structure Wf (l1 l2 l3 l4 : Nat) (ls : List Int) (r : Nat) : Prop where
  e1 : l2 = l1
  e2 : l3 = l4
  r : r < l1
  ok : ∀ i, i < l2 → nth ls i ≠ 0 → nth ls i - 1 < (l1 : Int) ∧ nth ls (nth ls i - 1).toNat = 0
set_option maxHeartbeats 4000000 in
set_option maxRecDepth 100000 in
theorem wf_any (a1 a2 a3 a4 : Option Addr) (l1 l2 l3 l4 p1 p2 p3 p4 r : Nat) (ls : List Int) (h2 : ls.length = l2) (hb : ∀ i, i < ls.length → 0 ≤ nth ls i ∧ nth ls i < 4294967296) (hr : r < 4294967296) (n1 : l1 ≤ 65536) (n2 : l2 ≤ 65536) (w : World) (i2 : In .u32 w a2 ls) :
    Calls Tryf.prog 6 #[.slice a1 l1 p1, .slice a2 l2 p2, .slice a3 l3 p3, .slice a4 l4 p4, .int .u32 (r : Int)] w (Chk (Wf l1 l2 l3 l4 ls r) w) := by
  have HB := Lib.hid hb
  clear hb
  by_cases q1 : l2 = l1
  case neg =>
    have d1 : decide ((l2 : Int) = (l1 : Int)) = false := by simp; omega
    clear hr
    go_enter Tryf.func6, Tryf.ntmps6
    go_wp2_with fail
    go_ret
    exact ⟨⟨false, rfl, fun h => by cases h⟩, rfl⟩
  by_cases q2 : l3 = l4
  case neg =>
    have d1 : decide ((l3 : Int) = (l4 : Int)) = false := by simp; omega
    subst q1
    clear hr
    go_enter Tryf.func6, Tryf.ntmps6
    go_wp2_with fail
    go_ret
    exact ⟨⟨false, rfl, fun h => by cases h⟩, rfl⟩
  subst q1 q2
  have w1 : IntKind.u64.wrap (l2 : Int) = (l2 : Int) := by rw [IntKind.wrap_u64]; omega
  have w2 : IntKind.u64.wrap (r : Int) = (r : Int) := by rw [IntKind.wrap_u64]; omega
  clear hr
  by_cases q3 : r < l2
  case neg =>
    go_enter Tryf.func6, Tryf.ntmps6
    go_wp2_with fail
    go_ret
    exact ⟨⟨false, rfl, fun h => by cases h⟩, rfl⟩
  have HR := Lib.hid q3
  go_enter Tryf.func6, Tryf.ntmps6
  go_wp2_with fail
  go_loopg [11, 12] l2 (fun k a _ wr => ∃ i : Nat, a = .int .i64 (i : Int) ∧ i ≤ l2 ∧ l2 - i ≤ k ∧ w = wr ∧ Hid (∀ j, j < i → nth ls j ≠ 0 → nth ls j - 1 < (l2 : Int) ∧ nth ls (nth ls j - 1).toNat = 0))
  case atStart => exact ⟨0, rfl, by omega, by omega, rfl, Lib.hid (fun j hj => by omega)⟩
  case round =>
    obtain ⟨i, rfl, hi, hk, rfl, HO⟩ := hrel
    rcases (show i = l2 ∨ i < l2 by omega) with he | hlt
    · subst he
      go_wp2_with fail
      go_ret
      exact ⟨⟨true, rfl, fun _ => ⟨rfl, rfl, HR.out, HO.out⟩⟩, rfl⟩
    · obtain ⟨b, off, rfl, _, hc⟩ := i2.at (i := i) (by omega)
      have hbi := HB.out i (by omega)
      obtain ⟨z, hz⟩ : ∃ z : Nat, nth ls i = (z : Int) := ⟨(nth ls i).toNat, by omega⟩
      rw [hz] at hc hbi
      have HZ := Lib.hid hz
      clear hz
      by_cases z0 : z = 0
      · subst z0
        go_wp2_with fail
        go_roundg (gk - 1)
        case measure => omega
        case rel => exact ⟨i + 1, by go_num, by omega, by omega, rfl, Lib.hid (fun j hj hn => by
          by_cases e : j = i
          · subst e; exact absurd HZ.out hn
          · exact HO.out j (by omega) hn)⟩
      · have d0 : decide ((z : Int) = 0) = false := by simp; omega
        have d0' : ((z : Int) == 0) = false := by simp; omega
        have w3 : IntKind.u64.wrap (z : Int) = (z : Int) := by rw [IntKind.wrap_u64]; omega
        obtain ⟨y, hy⟩ : ∃ y : Nat, (z : Int) - 1 = (y : Int) := ⟨z - 1, by omega⟩
        have w4 : IntKind.u64.wrap ((z : Int) - 1) = (y : Int) := by rw [IntKind.wrap_u64]; omega
        have HY := Lib.hid hy
        clear hy hbi
        by_cases q : y < l2
        · obtain ⟨b', off', eb, _, hc2⟩ := i2.at (i := y) (by omega)
          cases eb
          by_cases q5 : nth ls y = 0
          · rw [q5] at hc2
            have HQ5 := Lib.hid q5
            clear q5
            go_wp2_with fail
            go_roundg (gk - 1)
            case measure => clear w1 w2 w3 w4; omega
            case rel => exact ⟨i + 1, by go_num, by omega, by clear w1 w2 w3 w4; omega, rfl, Lib.hid (fun j hj hn => by
              by_cases e : j = i
              · subst e
                rw [HZ.out, HY.out]
                exact ⟨by omega, HQ5.out⟩
              · exact HO.out j (by omega) hn)⟩
          · have d5 : decide (nth ls y = 0) = false := by simp [q5]
            have d5' : (nth ls y == 0) = false := by simp [q5]
            go_wp2_with fail
            go_ret
            exact ⟨⟨false, rfl, fun h => by cases h⟩, rfl⟩
        · go_wp2_with fail
          go_ret
          exact ⟨⟨false, rfl, fun h => by cases h⟩, rfl⟩
end Go.Proofs.YtmfhoeihdikklaaFmt
