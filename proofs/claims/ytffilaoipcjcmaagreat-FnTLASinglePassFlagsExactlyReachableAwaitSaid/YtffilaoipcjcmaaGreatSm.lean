/-
  Small functions: Index32, zzKind, a stored check read. No statement of the seat is proved here.
-/
import Derived.Test.YtffilaoipcjcmaaGreatRows
import Derived.Test.YtffilaoipcjcmaaGreatReg
import Derived.WalkKit
import Derived.ProofKit
import Derived.WalkSpells
import Derived.RegionTactic
import Derived.BigQuiet
import Derived.BigRegion
import Derived.Deep.QuietTactic
import Derived.Deep.RegionWith
import Derived.Deep.LoopGhost
import Derived.Deep.DeepCutAuto
import Derived.Laws.BitsLemmas
import Derived.Laws.BitsAllLaws
namespace Go.Proofs.YtffilaoipcjcmaaGreat
open Go.RowKit
set_option linter.unusedVariables false
set_option linter.unusedSimpArgs false

theorem gb_new {w w' : World} {b : Nat} (h : w.grownBy w' (some b)) (hb : w.heap.size ≤ b) : w.grownBy w' none :=
  ⟨h.os, h.tape, h.output, h.size, fun i hi _ => h.block i hi (fun e => by have := Option.some.inj e; omega)⟩
theorem gb_none {w w' : World} {r : Option Nat} (h : w.grownBy w' none) : w.grownBy w' r := ⟨h.os, h.tape, h.output, h.size, fun i hi _ => h.block i hi (by simp)⟩
theorem not32 (m : Nat) (h : m < 4294967296) : 4294967295 ^^^ m = 4294967295 - m := by
  have h1 := BitVec.toNat_not (x := BitVec.ofNat 32 m)
  rw [← BitVec.xor_allOnes, BitVec.toNat_xor, BitVec.toNat_allOnes, BitVec.toNat_ofNat, Nat.mod_eq_of_lt h, Nat.xor_comm] at h1
  exact h1
theorem not_u32 (i : Int) (h0 : 0 ≤ i) (h1 : i < 4294967296) : bits BinOp.xor IntKind.u32 IntKind.u32.max i = 4294967295 - i := by
  rw [show IntKind.u32.max = ((4294967295 : Nat) : Int) from rfl]
  obtain ⟨m, rfl⟩ : ∃ m : Nat, i = (m : Int) := ⟨i.toNat, by omega⟩
  rw [u32_xor_nat _ _ (by omega) (by omega), not32 m (by omega)]
  omega
set_option maxRecDepth 100000 in
theorem mk_any (i : Int) (h0 : 0 ≤ i) (h1 : i < 4294967296) (w : World) : Calls Tryz.prog 16 #[.int .u32 i] w fun e w' => e = .returned (.agg #[.int .u32 (4294967295 - i)]) ∧ w.grownBy w' none := by
  have hx := not_u32 i h0 h1
  have hz : (zeroValue 45).run Tryz.prog w = .ok (.agg #[.int .u32 0]) w := by kernel_rfl
  have hb := Blk.new w 45 #[.int .u32 (4294967295 - i)]
  go_enter Tryz.func16, Tryz.ntmps16
  go_wp2
  exact bodyPost_ret (v := .agg #[.int .u32 (4294967295 - i)]) (results_cell_row (d := _) Tryz.results16 _ _ w.heap.size 45 _ (0, 0) (by rfl) hb Tryz.underlying45 rfl (by kernel_rfl)) rfl ⟨rfl, gb_alloc (gb_refl _ _) _⟩
set_option maxRecDepth 100000 in
theorem valid_any (i : Int) (w : World) : Calls Tryz.prog 20 #[.agg #[.int .u32 i]] w fun e w' => e = .returned (.bool (!(i == 0))) ∧ w.grownBy w' none := by
  go_enter Tryz.func20, Tryz.ntmps20
  go_wp2
  go_ret
  exact ⟨rfl, gb_alloc (gb_refl _ _) _⟩
set_option maxRecDepth 100000 in
theorem geti_any (i : Int) (h0 : 0 ≤ i) (h1 : i ≤ 4294967295) (w : World) : Calls Tryz.prog 21 #[.agg #[.int .u32 (4294967295 - i)]] w fun e w' => e = .returned (.int .u32 i) ∧ w.grownBy w' none := by
  have hx := not_u32 (4294967295 - i) (by omega) (by omega)
  rw [show 4294967295 - (4294967295 - i) = i by omega] at hx
  go_enter Tryz.func21, Tryz.ntmps21
  go_wp2
  go_ret
  exact ⟨rfl, gb_alloc (gb_refl _ _) _⟩
/-- the kind of an edge -/
def kd3 (k : Int) : Int := if k % 3 = 0 then 1 else if k % 3 = 1 then 2 else 3
set_option maxRecDepth 100000 in
theorem kind_any (k : Int) (h0 : 0 ≤ k) (h1 : k < 256) (w : World) : Calls Tryz.prog 17 #[.int .u8 k] w fun e w' => e = .returned (.int .u8 (kd3 k)) ∧ w' = w := by
  have hw : IntKind.u8.wrap (Int.tmod k 3) = k % 3 := by
    rw [Int.tmod_eq_emod_of_nonneg h0, IntKind.wrap_u8]; omega
  have hm : Int.tmod k 3 = k % 3 := Int.tmod_eq_emod_of_nonneg h0
  obtain ⟨r, hr⟩ : ∃ r, k % 3 = r := ⟨_, rfl⟩
  have hlt : 0 ≤ r ∧ r < 3 := by omega
  rw [hr] at hw hm
  unfold kd3
  rw [hr]
  rcases (show r = 0 ∨ r = 1 ∨ r = 2 by omega) with h | h | h
  all_goals
    subst h
    clear hr hlt
    go_enter Tryz.func17, Tryz.ntmps17
    go_wp2
    go_ret
    exact ⟨rfl, rfl⟩
/-- is file i there? -/
theorem fok_any (ao : Option Addr) (gs : List Bool) (cap : Nat) (n : Nat) (hn : gs.length = n) (i : Nat) (w : World) (hc : i < n → ∃ b off, ao = some ⟨b, off, none⟩ ∧ b < w.heap.size ∧ w.cell? ⟨b, off + i, none⟩ = some (.bool (gs.getD i false))) :
    Calls Tryz.prog 13 #[.slice ao n cap, .int .i64 (i : Int)] w fun e w' => e = .returned (.bool (!(gs.getD i false))) ∧ w' = w := by
  by_cases h : n ≤ i
  · have e1 : decide (n ≤ i) = true := by simp [h]
    have e2 : gs.getD i false = false := by simp [List.getD, hn, h]
    rw [e2]
    clear hc
    go_enter Tryz.func13, Tryz.ntmps13
    go_wp2
    go_ret
    exact ⟨rfl, rfl⟩
  · have e1 : decide (n ≤ i) = false := by simp; omega
    obtain ⟨b, off, rfl, lb, hc⟩ := hc (by omega)
    obtain ⟨t, ht⟩ : ∃ t, gs.getD i false = t := ⟨_, rfl⟩
    rw [ht] at hc ⊢
    have hlt : i < n := by omega
    clear hn ht h
    go_enter Tryz.func13, Tryz.ntmps13
    go_wp2
    go_ret
    exact ⟨rfl, rfl⟩
end Go.Proofs.YtffilaoipcjcmaaGreat
