/-
  Small functions: Index32, a linker's file, the linker's context, loaders. No statement of the seat is proved here.
-/
import Derived.Test.YtgollalliomhfaaDoorRows
import Derived.Test.YtgollalliomhfaaDoorReg
import Derived.Test.YtgollalliomhfaaDoorStrs
import Derived.WalkKit
import Derived.ProofKit
import Derived.WalkSpells
import Derived.RegionTactic
import Derived.BigQuiet
import Derived.BigRegion
import Derived.Deep.QuietTactic
import Derived.Deep.RegionWith
import Derived.Deep.LoopGhost
import Derived.Deep.DeepCutAuto
import Derived.Laws.BitsLemmas
import Derived.Laws.BitsAllLaws
namespace Go.Proofs.YtgollalliomhfaaDoor
open Go.RowKit
set_option linter.unusedVariables false
set_option linter.unusedSimpArgs false

theorem gb_new {w w' : World} {b : Nat} (h : w.grownBy w' (some b)) (hb : w.heap.size ≤ b) : w.grownBy w' none :=
  ⟨h.os, h.tape, h.output, h.size, fun i hi _ => h.block i hi (fun e => by have := Option.some.inj e; omega)⟩
theorem gb_none {w w' : World} {r : Option Nat} (h : w.grownBy w' none) : w.grownBy w' r := ⟨h.os, h.tape, h.output, h.size, fun i hi _ => h.block i hi (by simp)⟩
theorem not32 (m : Nat) (h : m < 4294967296) : 4294967295 ^^^ m = 4294967295 - m := by
  have h1 := BitVec.toNat_not (x := BitVec.ofNat 32 m)
  rw [← BitVec.xor_allOnes, BitVec.toNat_xor, BitVec.toNat_allOnes, BitVec.toNat_ofNat, Nat.mod_eq_of_lt h, Nat.xor_comm] at h1
  exact h1
theorem not_u32 (i : Int) (h0 : 0 ≤ i) (h1 : i < 4294967296) : bits BinOp.xor IntKind.u32 IntKind.u32.max i = 4294967295 - i := by
  rw [show IntKind.u32.max = ((4294967295 : Nat) : Int) from rfl]
  obtain ⟨m, rfl⟩ : ∃ m : Nat, i = (m : Int) := ⟨i.toNat, by omega⟩
  rw [u32_xor_nat _ _ (by omega) (by omega), not32 m (by omega)]
  omega
set_option maxRecDepth 100000 in
theorem mk_any (i : Int) (h0 : 0 ≤ i) (h1 : i < 4294967296) (w : World) : Calls Tryd.prog 10 #[.int .u32 i] w fun e w' => e = .returned (.agg #[.int .u32 (4294967295 - i)]) ∧ w.grownBy w' none := by
  have hx := not_u32 i h0 h1
  have hz : (zeroValue 51).run Tryd.prog w = .ok (.agg #[.int .u32 0]) w := by kernel_rfl
  have hb := Blk.new w 51 #[.int .u32 (4294967295 - i)]
  go_enter Tryd.func10, Tryd.ntmps10
  go_wp2
  exact bodyPost_ret (v := .agg #[.int .u32 (4294967295 - i)]) (results_cell_row (d := _) Tryd.results10 _ _ w.heap.size 51 _ (0, 0) (by rfl) hb Tryd.underlying51 rfl (by kernel_rfl)) rfl ⟨rfl, gb_alloc (gb_refl _ _) _⟩
set_option maxRecDepth 100000 in
theorem valid_any (i : Int) (w : World) : Calls Tryd.prog 13 #[.agg #[.int .u32 i]] w fun e w' => e = .returned (.bool (!(i == 0))) ∧ w.grownBy w' none := by
  go_enter Tryd.func13, Tryd.ntmps13
  go_wp2
  go_ret
  exact ⟨rfl, gb_alloc (gb_refl _ _) _⟩
set_option maxRecDepth 100000 in
theorem geti_any (i : Int) (h0 : 0 ≤ i) (h1 : i < 4294967295) (w : World) : Calls Tryd.prog 14 #[.agg #[.int .u32 (4294967295 - i)]] w fun e w' => e = .returned (.int .u32 i) ∧ w.grownBy w' none := by
  have hx := not_u32 (4294967295 - i) (by omega) (by omega)
  rw [show 4294967295 - (4294967295 - i) = i by omega] at hx
  go_enter Tryd.func14, Tryd.ntmps14
  go_wp2
  go_ret
  exact ⟨rfl, gb_alloc (gb_refl _ _) _⟩
def tsOf (ld : Int) : Bool := ld == 16 || (ld == 17 || ld == 18)
theorem its_any (b : Bool) (w : World) : Calls Tryd.prog 15 #[.int .u8 (if b then 16 else 10)] w fun e w' => e = .returned (.bool b) ∧ w' = w := by
  cases b
  · go_enter Tryd.func15, Tryd.ntmps15
    go_wp2
    go_ret
    exact ⟨rfl, rfl⟩
  · go_enter Tryd.func15, Tryd.ntmps15
    go_wp2
    go_ret
    exact ⟨rfl, rfl⟩
/-- the cells of a linker's file: its repr (a pointer to block p), its loader -/
noncomputable def ifC (p : Nat) (ld : Int) : Array Value := cellsOf ((Instr.build 122 #[(0, .iface 42 (.pointer (some ⟨p, 0, none⟩))), (6, .int .u8 ld)]).run Tryd.prog default)
theorem build122 (p : Nat) (ld : Int) (w : World) : (Instr.build 122 #[(0, .iface 42 (.pointer (some ⟨p, 0, none⟩))), (6, .int .u8 ld)]).run Tryd.prog w = .ok (.agg (ifC p ld)) w := by kernel_rfl
def lfL (p : Nat) (ld : Int) : List Value := [.slice none 0 0, .pointer none, .iface 42 (.pointer (some ⟨p, 0, none⟩)), .pointer none, .slice none 0 0, .string ⟨#[]⟩, .pointer none, .int .u8 0, .string ⟨#[]⟩, .string ⟨#[]⟩, .string ⟨#[]⟩, .string ⟨#[]⟩, .string ⟨#[]⟩, .string ⟨#[]⟩, .string ⟨#[]⟩, .string ⟨#[]⟩, .int .u8 0, .int .u32 0, .int .u8 ld, .bool false, .int .u32 0, .int .u32 0, .int .u8 0, .bool false]
noncomputable def lfC (p : Nat) (ld : Int) : Array Value := (lfL p ld).toArray
theorem build125 (p : Nat) (ld : Int) (w : World) : (Instr.build 125 #[(2, .agg (ifC p ld))]).run Tryd.prog w = .ok (.agg (lfC p ld)) w := by kernel_rfl
noncomputable def zc125 : Array Value := cellsOf ((zeroValue 125).run Tryd.prog default)
theorem alloc125 (w : World) : (Instr.alloc 125 true (.tuple #[])).run Tryd.prog w = .ok (.pointer (some ⟨w.heap.size, 0, none⟩)) (w.alloc (.cells zc125 125)) := by kernel_rfl
theorem size125 (p : Nat) (ld : Int) : zc125.size = (lfC p ld).size := by kernel_rfl
theorem info125 (p : Nat) (ld : Int) : (Tryd.prog.info? 125).map (·.size) = some (lfC p ld).size := by kernel_rfl
theorem one125 (p : Nat) (ld : Int) : (lfC p ld).all (·.oneCell') = true := by kernel_rfl
set_option maxRecDepth 100000 in
set_option maxHeartbeats 4000000 in
theorem jf_any (p : Nat) (ld : Int) (w : World) : Calls Tryd.prog 11 #[.pointer (some ⟨p, 0, none⟩), .int .u8 ld] w fun e w' => e = .returned (.agg (lfC p ld)) ∧ w.grownBy w' none := by
  have hB : Hid (Blk (w.alloc (.cells zc125 125)) w.heap.size 125 zc125) := Lib.hid (Blk.new w 125 zc125)
  go_enter Tryd.func11, Tryd.ntmps11
  go_wp2_with (first
    | (refine wpList_alloc_zero rfl 125 rfl zc125 alloc125 ?_)
    | (refine wpList_build rfl 122 _ rfl [(0, .iface 42 (.pointer (some ⟨p, 0, none⟩))), (6, .int .u8 ld)] rfl (ifC p ld) (build122 p ld) ?_)
    | (refine wpList_build rfl 125 _ rfl [(2, .agg (ifC p ld))] rfl (lfC p ld) (build125 p ld) ?_)
    | (refine wpList_store_blk rfl 125 _ _ rfl w.heap.size zc125 (lfC p ld) hB.out rfl rfl (size125 _ _) (info125 _ _) (one125 _ _) ?_; intro w5 hb5 hg5))
  simp only [Act.put]
  refine bodyPost_ret (v := .agg (lfC p ld)) (results_cell_row (d := _) Tryd.results11 _ _ w.heap.size 125 _ (0, 0) (by rfl) hb5 Tryd.underlying125 rfl (info125 _ _)) rfl ⟨rfl, ?_⟩
  exact gb_new (gb_trans (gb_alloc (gb_refl w (some w.heap.size)) _) hg5) (Nat.le_refl _)
noncomputable def opC : Array Value := cellsOf ((Instr.build 168 #[]).run Tryd.prog default)
noncomputable def lgC (a : Option Addr) (n : Nat) : Array Value := cellsOf ((Instr.build 174 #[(0, .slice a n n)]).run Tryd.prog default)
noncomputable def lcC (q : Nat) (a : Option Addr) (n : Nat) : Array Value := cellsOf ((Instr.build 192 #[(0, .pointer (some ⟨q, 0, none⟩)), (5, .agg (lgC a n))]).run Tryd.prog default)
theorem build168 (w : World) : (Instr.build 168 #[]).run Tryd.prog w = .ok (.agg opC) w := by kernel_rfl
theorem build174 (a : Option Addr) (n : Nat) (w : World) : (Instr.build 174 #[(0, .slice a n n)]).run Tryd.prog w = .ok (.agg (lgC a n)) w := by kernel_rfl
theorem build192 (q : Nat) (a : Option Addr) (n : Nat) (w : World) : (Instr.build 192 #[(0, .pointer (some ⟨q, 0, none⟩)), (5, .agg (lgC a n))]).run Tryd.prog w = .ok (.agg (lcC q a n)) w := by kernel_rfl
theorem lc10 (q : Nat) (a : Option Addr) (n : Nat) : (lcC q a n)[10]? = some (.slice a n n) := by kernel_rfl
set_option maxRecDepth 100000 in
set_option maxHeartbeats 4000000 in
theorem nl_any (a : Option Addr) (n : Nat) (w : World) : Calls Tryd.prog 7 #[.slice a n n] w fun e w' => ∃ C, e = .returned (.pointer (some ⟨C, 0, none⟩)) ∧ w.heap.size ≤ C ∧ (∃ cs, Blk w' C 192 cs ∧ cs[10]? = some (.slice a n n)) ∧ w.grownBy w' none := by
  go_enter Tryd.func7, Tryd.ntmps7
  go_wp2_with (first
    | (refine wpList_build rfl 168 _ rfl [] rfl opC build168 ?_)
    | (refine wpList_build rfl 174 _ rfl [(0, .slice a n n)] rfl (lgC a n) (build174 a n) ?_)
    | (refine wpList_build rfl 192 _ rfl [(0, .pointer (some ⟨w.heap.size, 0, none⟩)), (5, .agg (lgC a n))] rfl (lcC w.heap.size a n) (build192 _ a n) ?_))
  go_ret
  have hbk := Blk.new (w.alloc (.cells opC 168)) 192 (lcC w.heap.size a n)
  rw [show (w.alloc (.cells opC 168)).heap.size = w.heap.size + 1 by simp] at hbk
  exact ⟨_, rfl, by simp, ⟨_, hbk, lc10 _ _ _⟩, gb_alloc (gb_alloc (gb_refl _ _) _) _⟩
end Go.Proofs.YtgollalliomhfaaDoor
