/-
  Small functions: Index32, a linker's file, the linker's context, loaders. No statement of the seat is proved here.
-/
import Derived.Test.YtebecbidodnneaaRows
import Derived.Test.YtebecbidodnneaaSt
import Derived.WalkKit
import Derived.ProofKit
import Derived.WalkSpells
import Derived.RegionTactic
import Derived.BigQuiet
import Derived.BigRegion
import Derived.Deep.QuietTactic
import Derived.Deep.RegionWith
import Derived.Deep.LoopGhost
import Derived.Deep.DeepCutAuto
import Derived.Laws.BitsLemmas
import Derived.Laws.BitsAllLaws
namespace Go.Proofs.Ytebecbidodnneaa
open Go.RowKit
set_option linter.unusedVariables false
set_option linter.unusedSimpArgs false

theorem not32 (m : Nat) (h : m < 4294967296) : 4294967295 ^^^ m = 4294967295 - m := by
  have h1 := BitVec.toNat_not (x := BitVec.ofNat 32 m)
  rw [← BitVec.xor_allOnes, BitVec.toNat_xor, BitVec.toNat_allOnes, BitVec.toNat_ofNat, Nat.mod_eq_of_lt h, Nat.xor_comm] at h1
  exact h1
theorem not_u32 (i : Int) (h0 : 0 ≤ i) (h1 : i < 4294967296) : bits BinOp.xor IntKind.u32 IntKind.u32.max i = 4294967295 - i := by
  rw [show IntKind.u32.max = ((4294967295 : Nat) : Int) from rfl]
  obtain ⟨m, rfl⟩ : ∃ m : Nat, i = (m : Int) := ⟨i.toNat, by omega⟩
  rw [u32_xor_nat _ _ (by omega) (by omega), not32 m (by omega)]
  omega
set_option maxRecDepth 100000 in
theorem mk_any (i : Int) (h0 : 0 ≤ i) (h1 : i < 4294967296) (w : World) : Calls Try.prog 10 #[.int .u32 i] w fun e w' => e = .returned (.agg #[.int .u32 (4294967295 - i)]) ∧ w.grownBy w' none := by
  have hx := not_u32 i h0 h1
  have hz : (zeroValue 117).run Try.prog w = .ok (.agg #[.int .u32 0]) w := by kernel_rfl
  have hb := Blk.new w 117 #[.int .u32 (4294967295 - i)]
  go_enter Try.func10, Try.ntmps10
  go_wp2
  exact bodyPost_ret (v := .agg #[.int .u32 (4294967295 - i)]) (results_cell_row (d := _) Try.results10 _ _ w.heap.size 117 _ (0, 0) (by rfl) hb Try.underlying117 rfl (by kernel_rfl)) rfl ⟨rfl, gb_alloc (gb_refl _ _) _⟩
set_option maxRecDepth 100000 in
theorem valid_any (i : Int) (w : World) : Calls Try.prog 16 #[.agg #[.int .u32 i]] w fun e w' => e = .returned (.bool (!(i == 0))) ∧ w.grownBy w' none := by
  go_enter Try.func16, Try.ntmps16
  go_wp2
  go_ret
  exact ⟨rfl, gb_alloc (gb_refl _ _) _⟩
set_option maxRecDepth 100000 in
theorem geti_any (i : Int) (h0 : 0 ≤ i) (h1 : i < 4294967295) (w : World) : Calls Try.prog 17 #[.agg #[.int .u32 (4294967295 - i)]] w fun e w' => e = .returned (.int .u32 i) ∧ w.grownBy w' none := by
  have hx := not_u32 (4294967295 - i) (by omega) (by omega)
  rw [show 4294967295 - (4294967295 - i) = i by omega] at hx
  go_enter Try.func17, Try.ntmps17
  go_wp2
  go_ret
  exact ⟨rfl, gb_alloc (gb_refl _ _) _⟩
set_option maxRecDepth 100000 in
theorem has_any (b : Bool) (w : World) : Calls Try.prog 18 #[.int .u16 (exf b), .int .u16 1024] w fun e w' => e = .returned (.bool b) ∧ w' = w := by
  cases b
  · have h : bits .and .u16 (0 : Int) (1024 : Int) = 0 := by kernel_rfl
    show Calls Try.prog 18 #[.int .u16 0, .int .u16 1024] w _
    go_enter Try.func18, Try.ntmps18
    go_wp2
    go_ret
    exact ⟨rfl, rfl⟩
  · have h : bits .and .u16 (1024 : Int) (1024 : Int) = 1024 := by kernel_rfl
    show Calls Try.prog 18 #[.int .u16 1024, .int .u16 1024] w _
    go_enter Try.func18, Try.ntmps18
    go_wp2
    go_ret
    exact ⟨rfl, rfl⟩
end Go.Proofs.Ytebecbidodnneaa
