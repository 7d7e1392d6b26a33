/-
  Small functions: symbol kinds, namespaces, Index32. No statement of the seat is proved here.
-/
import Derived.Test.YtnfjfjcdehohhaaDoorFs
import Derived.Deep.LoopGhost
import Derived.Laws.BitsLemmas
import Derived.Laws.BitsAllLaws
namespace Go.Proofs.YtnfjfjcdehohhaaDoor
open Go.RowKit
set_option linter.unusedVariables false
set_option linter.unusedSimpArgs false

theorem not32 (m : Nat) (h : m < 4294967296) : 4294967295 ^^^ m = 4294967295 - m := by
  have h1 := BitVec.toNat_not (x := BitVec.ofNat 32 m)
  rw [← BitVec.xor_allOnes, BitVec.toNat_xor, BitVec.toNat_allOnes, BitVec.toNat_ofNat, Nat.mod_eq_of_lt h, Nat.xor_comm] at h1
  exact h1
theorem not_u32 (i : Int) (h0 : 0 ≤ i) (h1 : i < 4294967296) : bits BinOp.xor IntKind.u32 IntKind.u32.max i = 4294967295 - i := by
  rw [show IntKind.u32.max = ((4294967295 : Nat) : Int) from rfl]
  obtain ⟨m, rfl⟩ : ∃ m : Nat, i = (m : Int) := ⟨i.toNat, by omega⟩
  rw [u32_xor_nat _ _ (by omega) (by omega), not32 m (by omega)]
  omega
/-- pinned -/
def pin (k : Int) : Bool := k % 3 == 0
/-- the namespace of a kind code -/
def nsOf (k : Int) : Int := if k % 3 = 2 then 1 else 0
theorem tmod3 (k : Int) (h : 0 ≤ k) : k.tmod 3 = k % 3 := Int.tmod_eq_emod_of_nonneg h
theorem pin_any (k : Int) (h0 : 0 ≤ k) (h1 : k < 256) (w : World) : Calls Tryd.prog 12 #[.int .u8 k] w fun e w' => e = .returned (.bool (pin k)) ∧ w' = w := by
  have h3 := tmod3 k h0
  go_enter Tryd.func12, Tryd.ntmps12
  go_wp2
  go_ret
  exact ⟨rfl, rfl⟩
theorem ns_any (k : Int) (h0 : 0 ≤ k) (h1 : k < 256) (w : World) : Calls Tryd.prog 22 #[.int .u8 k] w fun e w' => e = .returned (.int .i64 (nsOf k)) ∧ w' = w := by
  have h3 := tmod3 k h0
  by_cases h : k % 3 = 2
  · rw [show nsOf k = 1 from if_pos h]
    go_enter Tryd.func22, Tryd.ntmps22
    go_wp2
    go_ret
    exact ⟨rfl, rfl⟩
  · rw [show nsOf k = 0 from if_neg h]
    go_enter Tryd.func22, Tryd.ntmps22
    go_wp2
    go_ret
    exact ⟨rfl, rfl⟩
theorem cnt_any (c0 c1 c2 c3 k : Int) (w : World) : Calls Tryd.prog 21 #[.int .u32 c0, .int .u32 c1, .int .u32 c2, .int .u32 c3, .int .i64 (nsOf k)] w fun e w' => e = .returned (.int .u32 (if k % 3 = 2 then c1 else c0)) ∧ w' = w := by
  unfold nsOf
  by_cases h : k % 3 = 2
  · rw [if_pos h, if_pos h]
    go_enter Tryd.func21, Tryd.ntmps21
    go_wp2
    go_ret
    exact ⟨rfl, rfl⟩
  · rw [if_neg h, if_neg h]
    go_enter Tryd.func21, Tryd.ntmps21
    go_wp2
    go_ret
    exact ⟨rfl, rfl⟩
theorem mk_any (i : Int) (h0 : 0 ≤ i) (h1 : i < 4294967296) (w : World) : Calls Tryd.prog 19 #[.int .u32 i] w fun e w' => e = .returned (.agg #[.int .u32 (4294967295 - i)]) ∧ w.grownBy w' none := by
  have hx := not_u32 i h0 h1
  have hz : (zeroValue 59).run Tryd.prog w = .ok (.agg #[.int .u32 0]) w := by kernel_rfl
  have hb := Blk.new w 59 #[.int .u32 (4294967295 - i)]
  go_enter Tryd.func19, Tryd.ntmps19
  go_wp2
  exact bodyPost_ret (v := .agg #[.int .u32 (4294967295 - i)]) (results_cell_row (d := _) Tryd.results19 _ _ w.heap.size 59 _ (0, 0) (by rfl) hb Tryd.underlying59 rfl (by kernel_rfl)) rfl ⟨rfl, gb_alloc (gb_refl _ _) _⟩
theorem valid_any (i : Int) (w : World) : Calls Tryd.prog 26 #[.agg #[.int .u32 i]] w fun e w' => e = .returned (.bool (!(i == 0))) ∧ w.grownBy w' none := by
  go_enter Tryd.func26, Tryd.ntmps26
  go_wp2
  go_ret
  exact ⟨rfl, gb_alloc (gb_refl _ _) _⟩
theorem geti_any (i : Int) (h0 : 0 ≤ i) (h1 : i < 4294967295) (w : World) : Calls Tryd.prog 27 #[.agg #[.int .u32 (4294967295 - i)]] w fun e w' => e = .returned (.int .u32 i) ∧ w.grownBy w' none := by
  have hx := not_u32 (4294967295 - i) (by omega) (by omega)
  rw [show 4294967295 - (4294967295 - i) = i by omega] at hx
  go_enter Tryd.func27, Tryd.ntmps27
  go_wp2
  go_ret
  exact ⟨rfl, gb_alloc (gb_refl _ _) _⟩
/-- the kind that a code stands for -/
def kindOf (k : Int) : Int := if k % 3 = 0 then 0 else if k % 3 = 1 then 27 else 18
theorem kind_any (k : Int) (h0 : 0 ≤ k) (h1 : k < 256) (w : World) : Calls Tryd.prog 17 #[.int .u8 k] w fun e w' => e = .returned (.int .u8 (kindOf k)) ∧ w' = w := by
  have h3 := tmod3 k h0
  rcases (show k % 3 = 0 ∨ k % 3 = 1 ∨ k % 3 = 2 by omega) with h | h | h
  · rw [show kindOf k = 0 from if_pos h]
    go_enter Tryd.func17, Tryd.ntmps17
    go_wp2
    go_ret
    exact ⟨rfl, rfl⟩
  · rw [show kindOf k = 27 by unfold kindOf; rw [if_neg (by omega), if_pos h]]
    go_enter Tryd.func17, Tryd.ntmps17
    go_wp2
    go_ret
    exact ⟨rfl, rfl⟩
  · rw [show kindOf k = 18 by unfold kindOf; rw [if_neg (by omega), if_neg (by omega)]]
    go_enter Tryd.func17, Tryd.ntmps17
    go_wp2
    go_ret
    exact ⟨rfl, rfl⟩
/-- the namespace that SlotNamespace tells of a kind code -/
def slotNs (k : Int) : Int := if k % 3 = 0 then 4 else nsOf k
set_option maxHeartbeats 1000000 in
theorem sns_any (S o : Nat) (k : Int) (w : World) (c8 : w.cell? ⟨S, o + 8, none⟩ = some (.int .u8 (kindOf k))) (c7 : w.cell? ⟨S, o + 7, none⟩ = some (.int .u16 0)) :
    Calls Tryd.prog 25 #[.pointer (some ⟨S, o, none⟩)] w fun e w' => e = .returned (.int .u8 (slotNs k)) ∧ w' = w := by
  rcases (show k % 3 = 0 ∨ k % 3 = 1 ∨ k % 3 = 2 by omega) with h | h | h
  · have e1 : kindOf k = 0 := if_pos h
    have e2 : slotNs k = 4 := if_pos h
    rw [e1] at c8
    rw [e2]
    go_enter Tryd.func25, Tryd.ntmps25
    go_wp2
    go_ret
    exact ⟨rfl, rfl⟩
  · have e1 : kindOf k = 27 := by unfold kindOf; rw [if_neg (by omega), if_pos h]
    have e2 : slotNs k = 0 := by unfold slotNs nsOf; rw [if_neg (by omega), if_neg (by omega)]
    rw [e1] at c8
    rw [e2]
    go_enter Tryd.func25, Tryd.ntmps25
    go_wp2
    go_ret
    exact ⟨rfl, rfl⟩
  · have e1 : kindOf k = 18 := by unfold kindOf; rw [if_neg (by omega), if_neg (by omega)]
    have e2 : slotNs k = 1 := by unfold slotNs nsOf; rw [if_neg (by omega), if_pos h]
    rw [e1] at c8
    rw [e2]
    go_enter Tryd.func25, Tryd.ntmps25
    go_wp2
    go_ret
    exact ⟨rfl, rfl⟩
end Go.Proofs.YtnfjfjcdehohhaaDoor
