/-
  Small functions: Index32, a linker's file, the linker's context, loaders. No statement of the seat is proved here.
-/
import Derived.Test.YtlfkdmncdafkiaaRows
import Derived.Test.YtlfkdmncdafkiaaReg
import Derived.WalkKit
import Derived.ProofKit
import Derived.WalkSpells
import Derived.RegionTactic
import Derived.BigQuiet
import Derived.BigRegion
import Derived.Deep.QuietTactic
import Derived.Deep.RegionWith
import Derived.Deep.LoopGhost
import Derived.Deep.DeepCutAuto
import Derived.Laws.BitsLemmas
import Derived.Laws.BitsAllLaws
namespace Go.Proofs.Ytlfkdmncdafkiaa
open Go.RowKit
set_option linter.unusedVariables false
set_option linter.unusedSimpArgs false

theorem gb_new {w w' : World} {b : Nat} (h : w.grownBy w' (some b)) (hb : w.heap.size ≤ b) : w.grownBy w' none :=
  ⟨h.os, h.tape, h.output, h.size, fun i hi _ => h.block i hi (fun e => by have := Option.some.inj e; omega)⟩
theorem gb_none {w w' : World} {r : Option Nat} (h : w.grownBy w' none) : w.grownBy w' r := ⟨h.os, h.tape, h.output, h.size, fun i hi _ => h.block i hi (by simp)⟩
theorem not32 (m : Nat) (h : m < 4294967296) : 4294967295 ^^^ m = 4294967295 - m := by
  have h1 := BitVec.toNat_not (x := BitVec.ofNat 32 m)
  rw [← BitVec.xor_allOnes, BitVec.toNat_xor, BitVec.toNat_allOnes, BitVec.toNat_ofNat, Nat.mod_eq_of_lt h, Nat.xor_comm] at h1
  exact h1
theorem not_u32 (i : Int) (h0 : 0 ≤ i) (h1 : i < 4294967296) : bits BinOp.xor IntKind.u32 IntKind.u32.max i = 4294967295 - i := by
  rw [show IntKind.u32.max = ((4294967295 : Nat) : Int) from rfl]
  obtain ⟨m, rfl⟩ : ∃ m : Nat, i = (m : Int) := ⟨i.toNat, by omega⟩
  rw [u32_xor_nat _ _ (by omega) (by omega), not32 m (by omega)]
  omega
set_option maxRecDepth 100000 in
theorem mk_any (i : Int) (h0 : 0 ≤ i) (h1 : i < 4294967296) (w : World) : Calls Try.prog 9 #[.int .u32 i] w fun e w' => e = .returned (.agg #[.int .u32 (4294967295 - i)]) ∧ w.grownBy w' none := by
  have hx := not_u32 i h0 h1
  have hz : (zeroValue 42).run Try.prog w = .ok (.agg #[.int .u32 0]) w := by kernel_rfl
  have hb := Blk.new w 42 #[.int .u32 (4294967295 - i)]
  go_enter Try.func9, Try.ntmps9
  go_wp2
  exact bodyPost_ret (v := .agg #[.int .u32 (4294967295 - i)]) (results_cell_row (d := _) Try.results9 _ _ w.heap.size 42 _ (0, 0) (by rfl) hb Try.underlying42 rfl (by kernel_rfl)) rfl ⟨rfl, gb_alloc (gb_refl _ _) _⟩
set_option maxRecDepth 100000 in
theorem valid_any (i : Int) (w : World) : Calls Try.prog 12 #[.agg #[.int .u32 i]] w fun e w' => e = .returned (.bool (!(i == 0))) ∧ w.grownBy w' none := by
  go_enter Try.func12, Try.ntmps12
  go_wp2
  go_ret
  exact ⟨rfl, gb_alloc (gb_refl _ _) _⟩
set_option maxRecDepth 100000 in
theorem geti_any (i : Int) (h0 : 0 ≤ i) (h1 : i < 4294967295) (w : World) : Calls Try.prog 13 #[.agg #[.int .u32 (4294967295 - i)]] w fun e w' => e = .returned (.int .u32 i) ∧ w.grownBy w' none := by
  have hx := not_u32 (4294967295 - i) (by omega) (by omega)
  rw [show 4294967295 - (4294967295 - i) = i by omega] at hx
  go_enter Try.func13, Try.ntmps13
  go_wp2
  go_ret
  exact ⟨rfl, gb_alloc (gb_refl _ _) _⟩
/-- the cells of a linker's file: its repr (a pointer to block p), its loader -/
noncomputable def ifC (p : Nat) (ld : Int) : Array Value := cellsOf ((Instr.build 118 #[(0, .iface 82 (.pointer (some ⟨p, 0, none⟩))), (6, .int .u8 ld)]).run Try.prog default)
theorem build118 (p : Nat) (ld : Int) (w : World) : (Instr.build 118 #[(0, .iface 82 (.pointer (some ⟨p, 0, none⟩))), (6, .int .u8 ld)]).run Try.prog w = .ok (.agg (ifC p ld)) w := by kernel_rfl
def lfL (p : Nat) (ld : Int) : List Value := [.slice none 0 0, .pointer none, .iface 82 (.pointer (some ⟨p, 0, none⟩)), .pointer none, .slice none 0 0, .string ⟨#[]⟩, .pointer none, .int .u8 0, .string ⟨#[]⟩, .string ⟨#[]⟩, .string ⟨#[]⟩, .string ⟨#[]⟩, .string ⟨#[]⟩, .string ⟨#[]⟩, .string ⟨#[]⟩, .string ⟨#[]⟩, .int .u8 0, .int .u32 0, .int .u8 ld, .bool false, .int .u32 0, .int .u32 0, .int .u8 0, .bool false]
noncomputable def lfC (p : Nat) (ld : Int) : Array Value := (lfL p ld).toArray
theorem build121 (p : Nat) (ld : Int) (w : World) : (Instr.build 121 #[(2, .agg (ifC p ld))]).run Try.prog w = .ok (.agg (lfC p ld)) w := by kernel_rfl
noncomputable def zc121 : Array Value := cellsOf ((zeroValue 121).run Try.prog default)
theorem alloc121 (w : World) : (Instr.alloc 121 true (.tuple #[])).run Try.prog w = .ok (.pointer (some ⟨w.heap.size, 0, none⟩)) (w.alloc (.cells zc121 121)) := by kernel_rfl
theorem size121 (p : Nat) (ld : Int) : zc121.size = (lfC p ld).size := by kernel_rfl
theorem info121 (p : Nat) (ld : Int) : (Try.prog.info? 121).map (·.size) = some (lfC p ld).size := by kernel_rfl
theorem one121 (p : Nat) (ld : Int) : (lfC p ld).all (·.oneCell') = true := by kernel_rfl
set_option maxRecDepth 100000 in
set_option maxHeartbeats 4000000 in
theorem jf_any (p : Nat) (ld : Int) (w : World) : Calls Try.prog 10 #[.pointer (some ⟨p, 0, none⟩), .int .u8 ld] w fun e w' => e = .returned (.agg (lfC p ld)) ∧ w.grownBy w' none := by
  have hB : Hid (Blk (w.alloc (.cells zc121 121)) w.heap.size 121 zc121) := Lib.hid (Blk.new w 121 zc121)
  go_enter Try.func10, Try.ntmps10
  go_wp2_with (first
    | (refine wpList_alloc_zero rfl 121 rfl zc121 alloc121 ?_)
    | (refine wpList_build rfl 118 _ rfl [(0, .iface 82 (.pointer (some ⟨p, 0, none⟩))), (6, .int .u8 ld)] rfl (ifC p ld) (build118 p ld) ?_)
    | (refine wpList_build rfl 121 _ rfl [(2, .agg (ifC p ld))] rfl (lfC p ld) (build121 p ld) ?_)
    | (refine wpList_store_blk rfl 121 _ _ rfl w.heap.size zc121 (lfC p ld) hB.out rfl rfl (size121 _ _) (info121 _ _) (one121 _ _) ?_; intro w5 hb5 hg5))
  simp only [Act.put]
  refine bodyPost_ret (v := .agg (lfC p ld)) (results_cell_row (d := _) Try.results10 _ _ w.heap.size 121 _ (0, 0) (by rfl) hb5 Try.underlying121 rfl (info121 _ _)) rfl ⟨rfl, ?_⟩
  exact gb_new (gb_trans (gb_alloc (gb_refl w (some w.heap.size)) _) hg5) (Nat.le_refl _)
noncomputable def opC : Array Value := cellsOf ((Instr.build 164 #[]).run Try.prog default)
noncomputable def lgC (a : Option Addr) (n : Nat) : Array Value := cellsOf ((Instr.build 170 #[(0, .slice a n n)]).run Try.prog default)
noncomputable def lcC (q : Nat) (a : Option Addr) (n : Nat) : Array Value := cellsOf ((Instr.build 188 #[(0, .pointer (some ⟨q, 0, none⟩)), (5, .agg (lgC a n))]).run Try.prog default)
theorem build164 (w : World) : (Instr.build 164 #[]).run Try.prog w = .ok (.agg opC) w := by kernel_rfl
theorem build170 (a : Option Addr) (n : Nat) (w : World) : (Instr.build 170 #[(0, .slice a n n)]).run Try.prog w = .ok (.agg (lgC a n)) w := by kernel_rfl
theorem build188 (q : Nat) (a : Option Addr) (n : Nat) (w : World) : (Instr.build 188 #[(0, .pointer (some ⟨q, 0, none⟩)), (5, .agg (lgC a n))]).run Try.prog w = .ok (.agg (lcC q a n)) w := by kernel_rfl
theorem lc10 (q : Nat) (a : Option Addr) (n : Nat) : (lcC q a n)[10]? = some (.slice a n n) := by kernel_rfl
set_option maxRecDepth 100000 in
set_option maxHeartbeats 4000000 in
theorem nl_any (a : Option Addr) (n : Nat) (w : World) : Calls Try.prog 7 #[.slice a n n] w fun e w' => ∃ C, e = .returned (.pointer (some ⟨C, 0, none⟩)) ∧ w.heap.size ≤ C ∧ (∃ cs, Blk w' C 188 cs ∧ cs[10]? = some (.slice a n n)) ∧ w.grownBy w' none := by
  go_enter Try.func7, Try.ntmps7
  go_wp2_with (first
    | (refine wpList_build rfl 164 _ rfl [] rfl opC build164 ?_)
    | (refine wpList_build rfl 170 _ rfl [(0, .slice a n n)] rfl (lgC a n) (build170 a n) ?_)
    | (refine wpList_build rfl 188 _ rfl [(0, .pointer (some ⟨w.heap.size, 0, none⟩)), (5, .agg (lgC a n))] rfl (lcC w.heap.size a n) (build188 _ a n) ?_))
  go_ret
  have hbk := Blk.new (w.alloc (.cells opC 164)) 188 (lcC w.heap.size a n)
  rw [show (w.alloc (.cells opC 164)).heap.size = w.heap.size + 1 by simp] at hbk
  exact ⟨_, rfl, by simp, ⟨_, hbk, lc10 _ _ _⟩, gb_alloc (gb_alloc (gb_refl _ _) _) _⟩
end Go.Proofs.Ytlfkdmncdafkiaa
