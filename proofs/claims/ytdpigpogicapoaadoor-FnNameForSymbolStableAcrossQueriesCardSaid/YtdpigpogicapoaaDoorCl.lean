/-
  The law's helpers that read its arguments: zzBytes, zzStringBytes, the two clones. No statement of the seat is proved here.
-/
import Derived.Test.YtdpigpogicapoaaDoorBt
import Derived.Lib.SliceRun
namespace Go.Proofs.YtdpigpogicapoaaDoor
open Go.RowKit
set_option linter.unusedVariables false
set_option linter.unusedSimpArgs false

def SomeBool (e : Ending) : Prop := ∃ b : Bool, e = .returned (.bool b)

set_option maxHeartbeats 1000000 in
set_option maxRecDepth 100000 in
theorem zb_any (ao : Option Addr) (n cap : Nat) (ts : List ByteArray) (bo : Option Addr) (m cap2 : Nat) (hn : ts.length = n) (hm : n ≤ maxLen) (w : World) (hin : InS w ao ts) :
    Calls Tryd.prog 4 #[.slice ao n cap, .slice bo m cap2] w fun e w' => SomeBool e ∧ w' = w := by
  by_cases h0 : (n : Int) > 1048576
  · go_enter Tryd.func4, Tryd.ntmps4
    go_wp2_with fail
    go_ret
    exact ⟨⟨false, rfl⟩, rfl⟩
  · have h1 : decide ((1048576 : Int) < (n : Int)) = false := by simp; omega
    go_enter Tryd.func4, Tryd.ntmps4
    go_wp2_with fail
    go_loopg [5, 6] n (fun k a b wr => ∃ (x : Int) (i : Nat), a = .int .i64 x ∧ b = .int .i64 (i : Int) ∧ i ≤ n ∧ n - i ≤ k ∧ wr = w)
    case atStart => exact ⟨_, 0, rfl, rfl, by omega, by omega, rfl⟩
    case round =>
      obtain ⟨x, i, rfl, rfl, hi, hk, rfl⟩ := hrel
      rcases (show i = n ∨ i < n by omega) with rfl | hlt
      · by_cases h2 : (m : Int) > 1048576
        · go_wp2_with fail
          go_ret
          exact ⟨⟨false, rfl⟩, rfl⟩
        · have h3 : decide ((1048576 : Int) < (m : Int)) = false := by simp; omega
          obtain ⟨y, hy⟩ : ∃ y, IntKind.i64.wrap (x + (m : Int)) = y := ⟨_, rfl⟩
          by_cases h4 : y > 1048576
          · have h5 : decide ((1048576 : Int) < y) = true := by simp; omega
            go_wp2_with fail
            go_ret
            exact ⟨⟨false, rfl⟩, rfl⟩
          · have h5 : decide ((1048576 : Int) < y) = false := by simp; omega
            go_wp2_with fail
            go_ret
            exact ⟨⟨true, rfl⟩, rfl⟩
      · obtain ⟨b, off, rfl, _, hc⟩ := hin.at (i := i) (by omega)
        obtain ⟨t, ht⟩ : ∃ t, tth ts i = t := ⟨_, rfl⟩
        rw [ht] at hc
        by_cases h2 : (t.size : Int) > 1048576
        · go_wp2_with fail
          go_ret
          exact ⟨⟨false, rfl⟩, rfl⟩
        · have h3 : decide ((1048576 : Int) < (t.size : Int)) = false := by simp; omega
          obtain ⟨y, hy⟩ : ∃ y, IntKind.i64.wrap (x + (t.size : Int)) = y := ⟨_, rfl⟩
          by_cases h4 : y > 1048576
          · have h5 : decide ((1048576 : Int) < y) = true := by simp; omega
            go_wp2_with fail
            go_ret
            exact ⟨⟨false, rfl⟩, rfl⟩
          · have h5 : decide ((1048576 : Int) < y) = false := by simp; omega
            go_wp2_with fail
            go_roundg (n - (i + 1))
            case measure => omega
            case rel => exact ⟨y, i + 1, rfl, by go_num, hlt, Nat.le_refl _, rfl⟩
def SomeInt (e : Ending) : Prop := ∃ x : Int, e = .returned (.int .i64 x)
set_option maxHeartbeats 1000000 in
set_option maxRecDepth 100000 in
theorem sb_any (ao : Option Addr) (n cap : Nat) (ts : List ByteArray) (hn : ts.length = n) (hm : n ≤ 4096) (w : World) (hin : InS w ao ts) :
    Calls Tryd.prog 5 #[.slice ao n cap] w fun e w' => SomeInt e ∧ w' = w := by
  go_enter Tryd.func5, Tryd.ntmps5
  go_wp2_with fail
  go_loopg [3, 4] n (fun k a b wr => ∃ (x : Int) (i : Nat), a = .int .i64 x ∧ b = .int .i64 (i : Int) ∧ i ≤ n ∧ n - i ≤ k ∧ wr = w)
  case atStart => exact ⟨_, 0, rfl, rfl, by omega, by omega, rfl⟩
  case round =>
    obtain ⟨x, i, rfl, rfl, hi, hk, rfl⟩ := hrel
    rcases (show i = n ∨ i < n by omega) with rfl | hlt
    · go_wp2_with fail
      go_ret
      exact ⟨⟨x, rfl⟩, rfl⟩
    · obtain ⟨b, off, rfl, _, hc⟩ := hin.at (i := i) (by omega)
      obtain ⟨t, ht⟩ : ∃ t, tth ts i = t := ⟨_, rfl⟩
      rw [ht] at hc
      obtain ⟨y, hy⟩ : ∃ y, IntKind.i64.wrap (x + (t.size : Int)) = y := ⟨_, rfl⟩
      go_wp2_with fail
      go_roundg (n - (i + 1))
      case measure => omega
      case rel => exact ⟨y, i + 1, rfl, by go_num, hlt, Nat.le_refl _, rfl⟩
theorem ci_info : (Tryd.prog.info? 21).map (fun i => (i.zero, i.size, i.bytes)) = some (some (.int .i32 0), 1, 4) := by kernel_rfl
theorem ci_any (ao : Option Addr) (cap : Nat) (zs : List Int) (w : World) (hin : In .i32 w ao zs) (hl : zs.length ≤ 1048576) :
    Calls Tryd.prog 7 #[.slice ao zs.length cap] w (Cloned .i32 21 w zs) := by
  have hnil := fun (w : World) => Lib.run_eql_slice_nil (P := Tryd.prog) w 23 21 ao zs.length cap 0 0 Tryd.underlying23
  rcases ao with _ | x
  · have hz : zs = [] := by
      rcases hin with h | ⟨b, off, h, _⟩
      · exact h
      · cases h
    subst hz
    clear hin hl
    simp only [List.length_nil, Option.isNone_none] at hnil
    go_enter Tryd.func7, Tryd.ntmps7
    go_wp2
    go_ret
    exact ⟨_, _, rfl, .inl rfl, Below.refl _ _⟩
  · have HI := Lib.hid hin
    clear hin
    go_enter Tryd.func7, Tryd.ntmps7
    go_wp2_with (at_make; refine wpList_make_ints _ rfl _ _ 23 rfl 21 .i32 4 Tryd.underlying23 ci_info zs.length rfl rfl (by omega) (by unfold maxLen; omega) ?_; intro w1 hb hgr)
    have hb1 : Below w.heap.size w w1 := (Below.refl _ w).grown hgr (Nat.le_refl _) (fun k h => by cases h)
    have HB := Lib.hid (And.intro hb hb1)
    clear hb hgr hb1
    go_loopw [4] (fun i wr => ∃ k : Nat, k ≤ zs.length ∧ i = .int .i64 k ∧ Blk wr w.heap.size 21 (ints .i32 (cpy zs k)) ∧ Below w.heap.size w wr) (fun i _ => zs.length - (intOf i).toNat)
    case atStart => exact ⟨0, Nat.zero_le _, rfl, by rw [cpy_zero]; exact HB.out.1, HB.out.2⟩
    case round =>
      obtain ⟨k, hk, rfl, hB, hbel⟩ := hrel
      rcases (show k = zs.length ∨ k < zs.length by omega) with rfl | hlt
      · rw [cpy_end] at hB
        have HF := Lib.hid (And.intro hB hbel)
        clear hB hbel
        go_wp2
        go_ret
        exact ⟨_, _, rfl, .inr ⟨_, rfl, Nat.le_refl _, HF.out.1⟩, HF.out.2⟩
      · obtain ⟨b, off, hx, hblt, hc⟩ := HI.out.at hlt
        cases hx
        have hc' := (hbel.cell (p := ⟨b, off + k, none⟩) hblt).trans hc
        have hcl := cpy_length zs k hk
        have hs := hB.int (i := k) (by omega)
        have hf := hB.free k
        have hB2 := hB.put k (nth zs k)
        rw [cpy_step zs k hlt] at hB2
        have HN := Lib.hid (And.intro hB2 (hbel.setCell (p := ⟨w.heap.size, k, none⟩) (Nat.le_refl _) (.int .i32 (nth zs k))))
        clear hB hbel hB2 hc hcl
        go_wp2
        go_roundw
        case rel => exact ⟨k + 1, by omega, by go_num, HN.out.1, HN.out.2⟩
        case measure => simp [intOf]; omega

def ClonedS (e : TypeId) (w : World) (zs : List ByteArray) (en : Ending) (w' : World) : Prop :=
  ∃ ao cap, en = .returned (.slice ao zs.length cap) ∧ (zs = [] ∨ ∃ g, ao = some ⟨g, 0, none⟩ ∧ w.heap.size ≤ g ∧ Blk w' g e (strs zs)) ∧ Below w.heap.size w w'
theorem ClonedS.in' {e : TypeId} {w w' : World} {zs : List ByteArray} {ao : Option Addr} (h : zs = [] ∨ ∃ g, ao = some ⟨g, 0, none⟩ ∧ w.heap.size ≤ g ∧ Blk w' g e (strs zs)) : InS w' ao zs := by
  rcases h with h | ⟨g, rfl, _, hb⟩
  · exact .inl h
  · exact hb.inS
theorem cs_info : (Tryd.prog.info? 9).map (fun i => (i.zero, i.size, i.bytes)) = some (some (.string ByteArray.empty), 1, 16) := by kernel_rfl
theorem cs_any (ao : Option Addr) (cap : Nat) (zs : List ByteArray) (w : World) (hin : InS w ao zs) (hl : zs.length ≤ 1048576) :
    Calls Tryd.prog 6 #[.slice ao zs.length cap] w (ClonedS 9 w zs) := by
  have hnil := fun (w : World) => Lib.run_eql_slice_nil (P := Tryd.prog) w 22 9 ao zs.length cap 0 0 Tryd.underlying22
  rcases ao with _ | x
  · have hz : zs = [] := by
      rcases hin with h | ⟨b, off, h, _⟩
      · exact h
      · cases h
    subst hz
    clear hin hl
    simp only [List.length_nil, Option.isNone_none] at hnil
    go_enter Tryd.func6, Tryd.ntmps6
    go_wp2
    go_ret
    exact ⟨_, _, rfl, .inl rfl, Below.refl _ _⟩
  · have HI := Lib.hid hin
    clear hin
    go_enter Tryd.func6, Tryd.ntmps6
    go_wp2_with (at_make; refine wpList_make_strs _ rfl _ _ 22 rfl 9 ByteArray.empty 16 Tryd.underlying22 cs_info zs.length rfl rfl (by omega) (by unfold maxLen; omega) ?_; intro w1 hb hgr)
    have hb1 : Below w.heap.size w w1 := (Below.refl _ w).grown hgr (Nat.le_refl _) (fun k h => by cases h)
    have HB := Lib.hid (And.intro hb hb1)
    clear hb hgr hb1
    go_loopw [4] (fun i wr => ∃ k : Nat, k ≤ zs.length ∧ i = .int .i64 k ∧ Blk wr w.heap.size 9 (strs (cpyS ByteArray.empty zs k)) ∧ Below w.heap.size w wr) (fun i _ => zs.length - (intOf i).toNat)
    case atStart => exact ⟨0, Nat.zero_le _, rfl, by rw [cpyS_zero]; exact HB.out.1, HB.out.2⟩
    case round =>
      obtain ⟨k, hk, rfl, hB, hbel⟩ := hrel
      rcases (show k = zs.length ∨ k < zs.length by omega) with rfl | hlt
      · rw [cpyS_end] at hB
        have HF := Lib.hid (And.intro hB hbel)
        clear hB hbel
        go_wp2
        go_ret
        exact ⟨_, _, rfl, .inr ⟨_, rfl, Nat.le_refl _, HF.out.1⟩, HF.out.2⟩
      · obtain ⟨b, off, hx, hblt, hc⟩ := HI.out.at hlt
        cases hx
        have hc' := (hbel.cell (p := ⟨b, off + k, none⟩) hblt).trans hc
        have hcl := cpyS_length ByteArray.empty zs k hk
        have hs := hB.str (i := k) (by omega)
        have hf := hB.free k
        have hB2 := hB.putS k (tth zs k)
        rw [cpyS_step ByteArray.empty zs k hlt] at hB2
        have HN := Lib.hid (And.intro hB2 (hbel.setCell (p := ⟨w.heap.size, k, none⟩) (Nat.le_refl _) (.string (tth zs k))))
        clear hB hbel hB2 hc hcl
        go_wp2
        go_roundw
        case rel => exact ⟨k + 1, by omega, by go_num, HN.out.1, HN.out.2⟩
        case measure => simp [intOf]; omega

end Go.Proofs.YtdpigpogicapoaaDoor
