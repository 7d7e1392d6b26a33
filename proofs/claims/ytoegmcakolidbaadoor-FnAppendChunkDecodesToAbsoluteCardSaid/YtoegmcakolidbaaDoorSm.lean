/-
  Small functions of FnAppendChunk's law: the index of a name, the states, the bounds. No statement of the seat is proved here.
-/
import Derived.Test.YtoegmcakolidbaaDoorRows
import Derived.Test.YtoegmcakolidbaaDoorAmb
import Derived.Test.YtoegmcakolidbaaDoorOwnCopy
namespace Go.Proofs.YtoegmcakolidbaaDoor
open Go.RowKit
set_option linter.unusedVariables false
theorem xor_u32 (i : Nat) (h : i < 4294967296) : bits .xor .u32 IntKind.u32.max (i : Int) = ((4294967295 - i : Nat) : Int) := by
  show IntKind.u32.wrap ((BitVec.ofInt 32 IntKind.u32.max ^^^ BitVec.ofInt 32 (i : Int)).toNat : Int) = _
  have e : BitVec.ofInt 32 IntKind.u32.max = BitVec.allOnes 32 := by decide
  rw [e, BitVec.allOnes_xor, BitVec.toNat_not, BitVec.ofInt_natCast, BitVec.toNat_ofNat, Nat.mod_eq_of_lt (by omega), IntKind.wrap_u32]
  omega
theorem mk_any (i : Nat) (w : World) (h : i < 4294967296) : Calls Tryd.prog 26 #[.int .u32 i] w fun e w' => e = .returned (.agg #[.int .u32 ((4294967295 - i : Nat) : Int)]) ∧ Below w.heap.size w w' := by
  have hx := xor_u32 i h
  go_enter Tryd.func26, Tryd.ntmps26
  go_wp2_with fail
  all_goals
    have hc : (w.alloc (.cells #[.int .u32 ((4294967295 - i : Nat) : Int)] 45)).cell? ⟨w.heap.size, 0, none⟩ = some (.int .u32 ((4294967295 - i : Nat) : Int)) := (Blk.new w 45 #[.int .u32 ((4294967295 - i : Nat) : Int)]).cell 0
    exact bodyPost_ret (v := .agg #[.int .u32 ((4294967295 - i : Nat) : Int)]) (by simp [results, Tryd.results26, go_sem, hc]) rfl ⟨rfl, (Below.refl _ w).alloc (Nat.le_refl _) _⟩
theorem iv_any (x : Int) (w : World) : Calls Tryd.prog 23 #[.agg #[.int .u32 x]] w fun e w' => e = .returned (.bool (x != 0)) ∧ Below w.heap.size w w' := by
  go_enter Tryd.func23, Tryd.ntmps23
  go_wp2_with fail
  go_ret
  exact ⟨rfl, (Below.refl _ w).alloc (Nat.le_refl _) _⟩
theorem gi_any (i : Nat) (w : World) (h : i < 4294967296) : Calls Tryd.prog 24 #[.agg #[.int .u32 ((4294967295 - i : Nat) : Int)]] w fun e w' => e = .returned (.int .u32 i) ∧ Below w.heap.size w w' := by
  obtain ⟨j, hj⟩ : ∃ j, 4294967295 - i = j := ⟨_, rfl⟩
  have hx := xor_u32 j (by omega)
  have hi : 4294967295 - j = i := by omega
  rw [hi] at hx
  rw [hj]
  have HX := Lib.hid hx
  clear hj hi hx
  go_enter Tryd.func24, Tryd.ntmps24
  go_wp2_with fail
  go_ret
  exact ⟨ret_int HX.out, (Below.refl _ w).alloc (Nat.le_refl _) _⟩
theorem cb_any (ao : Option Addr) (cap : Nat) (zs : List Int) (w : World) (hin : In .u8 w ao zs) (hl : zs.length ≤ 1048576) :
    Calls Tryd.prog 7 #[.slice ao zs.length cap] w (Cloned .u8 5 w zs) := by
  have hnil := fun (w : World) => Lib.run_eql_slice_nil (P := Tryd.prog) w 22 5 ao zs.length cap 0 0 Tryd.underlying22
  rcases ao with _ | x
  · have hz : zs = [] := by
      rcases hin with h | ⟨b, off, h, _⟩
      · exact h
      · cases h
    subst hz
    clear hin hl
    simp only [List.length_nil, Option.isNone_none] at hnil
    go_enter Tryd.func7, Tryd.ntmps7
    go_wp2
    go_ret
    exact ⟨_, _, rfl, .inl rfl, Below.refl _ _⟩
  · have HI := Lib.hid hin
    clear hin
    go_enter Tryd.func7, Tryd.ntmps7
    go_wp2_with (first
      | (at_make; refine wpList_make_ints _ rfl _ _ 22 rfl 5 .u8 1 Tryd.underlying22 copyB_info zs.length rfl rfl (by omega) (by unfold maxLen; omega) ?_; intro w1 hb hgr; have hb1 : Below w.heap.size w w1 := (Below.refl _ w).grown hgr (Nat.le_refl _) (fun k h => by cases h); have HB := Lib.hid (And.intro hb hb1); clear hb hgr hb1)
      | (refine wpList_copy_ints w1 rfl (.tmp 9) (.tmp 10) 22 rfl 5 .u8 Tryd.underlying22 rfl w.heap.size zs.length cap (some x) zs (List.replicate zs.length 0) rfl rfl HB.out.1 (by simp) (HI.out.kept HB.out.2) w.heap.size w HB.out.2 (Nat.le_refl _) ?_; intro w2 hb2 hw2; have HF := Lib.hid (And.intro hb2 hw2); clear hb2 hw2))
    go_ret
    exact ⟨_, _, rfl, .inr ⟨_, rfl, Nat.le_refl _, HF.out.1⟩, HF.out.2⟩
theorem copyI_info : (Tryd.prog.info? 21).map (fun i => (i.zero, i.size, i.bytes)) = some (some (.int .i32 0), 1, 4) := by kernel_rfl
theorem ci_any (ao : Option Addr) (cap : Nat) (zs : List Int) (w : World) (hin : In .i32 w ao zs) (hl : zs.length ≤ 1048576) :
    Calls Tryd.prog 8 #[.slice ao zs.length cap] w (Cloned .i32 21 w zs) := by
  have hnil := fun (w : World) => Lib.run_eql_slice_nil (P := Tryd.prog) w 25 21 ao zs.length cap 0 0 Tryd.underlying25
  rcases ao with _ | x
  · have hz : zs = [] := by
      rcases hin with h | ⟨b, off, h, _⟩
      · exact h
      · cases h
    subst hz
    clear hin hl
    simp only [List.length_nil, Option.isNone_none] at hnil
    go_enter Tryd.func8, Tryd.ntmps8
    go_wp2
    go_ret
    exact ⟨_, _, rfl, .inl rfl, Below.refl _ _⟩
  · have HI := Lib.hid hin
    clear hin
    go_enter Tryd.func8, Tryd.ntmps8
    go_wp2_with (first
      | (at_make; refine wpList_make_ints _ rfl _ _ 25 rfl 21 .i32 4 Tryd.underlying25 copyI_info zs.length rfl rfl (by omega) (by unfold maxLen; omega) ?_; intro w1 hb hgr; have hb1 : Below w.heap.size w w1 := (Below.refl _ w).grown hgr (Nat.le_refl _) (fun k h => by cases h); have HB := Lib.hid (And.intro hb hb1); clear hb hgr hb1)
      | (refine wpList_copy_ints w1 rfl (.tmp 9) (.tmp 10) 25 rfl 21 .i32 Tryd.underlying25 rfl w.heap.size zs.length cap (some x) zs (List.replicate zs.length 0) rfl rfl HB.out.1 (by simp) (HI.out.kept HB.out.2) w.heap.size w HB.out.2 (Nat.le_refl _) ?_; intro w2 hb2 hw2; have HF := Lib.hid (And.intro hb2 hw2); clear hb2 hw2))
    go_ret
    exact ⟨_, _, rfl, .inr ⟨_, rfl, Nat.le_refl _, HF.out.1⟩, HF.out.2⟩
theorem io_any (ao : Option Addr) (cap n : Nat) (zs : List Int) (w : World) (hn : zs.length = n) (hin : In .i32 w ao zs) (hl : n ≤ 1048576) :
    Calls Tryd.prog 6 #[.slice ao n cap, .int .i32 4096] w fun e w' => ((e = .returned (.bool true) ∧ ∀ z ∈ zs, -4096 ≤ z ∧ z ≤ 4096) ∨ e = .returned (.bool false)) ∧ w = w' := by
  have HI := Lib.hid (And.intro hin hn)
  clear hin hn
  go_enter Tryd.func6, Tryd.ntmps6
  go_wp2_with fail
  go_loopg [5] n (fun g a wr => ∃ j : Nat, a = .int .i64 j ∧ j ≤ n ∧ n - j ≤ g ∧ w = wr ∧ ∀ i, i < j → -4096 ≤ nth zs i ∧ nth zs i ≤ 4096)
  case atStart => exact ⟨0, rfl, Nat.zero_le _, Nat.le_refl _, rfl, fun i h => by omega⟩
  case round =>
    obtain ⟨j, rfl, hj, hjg, hwr, hal⟩ := hrel
    subst hwr
    rcases (show j = n ∨ j < n by omega) with rfl | hjn
    · have HA := Lib.hid hal
      clear hal
      go_wp2_with fail
      go_ret
      refine ⟨.inl ⟨rfl, fun z hz => ?_⟩, rfl⟩
      obtain ⟨i, hi, rfl⟩ := List.getElem_of_mem hz
      rw [← nth_get zs i hi]
      exact HA.out i (by rw [← HI.out.2]; exact hi)
    · obtain ⟨b, off, hx, hb, hc⟩ := HI.out.1.at (i := j) (by rw [HI.out.2]; exact hjn)
      subst hx
      obtain ⟨z, hz⟩ : ∃ z, nth zs j = z := ⟨_, rfl⟩
      rw [hz] at hc
      have HA := Lib.hid (And.intro hal hz)
      clear hal hz
      rcases (show z < -4096 ∨ 4096 < z ∨ (-4096 ≤ z ∧ z ≤ 4096) by omega) with h | h | ⟨h1, h2⟩
      · go_wp2_with fail
        go_ret
        exact ⟨.inr rfl, rfl⟩
      · have h' : decide (z < -4096) = false := decide_eq_false (by omega)
        go_wp2_with fail
        go_ret
        exact ⟨.inr rfl, rfl⟩
      · have h' : decide (z < -4096) = false := decide_eq_false (by omega)
        have h'' : decide (4096 < z) = false := decide_eq_false (by omega)
        go_wp2_with fail
        go_roundg (n - (j + 1))
        case measure => omega
        case rel =>
          refine ⟨j + 1, by go_num, hjn, Nat.le_refl _, rfl, fun i hi => ?_⟩
          rcases (show i = j ∨ i < j by omega) with rfl | h
          · rw [HA.out.2]; exact ⟨h1, h2⟩
          · exact HA.out.1 i h
end Go.Proofs.YtoegmcakolidbaaDoor
