/-
  MakeChunkBuilder. No statement of the seat is proved here.
-/
import Derived.Test.YtfbeeekakfllpaaDoorAmw
import Derived.Test.YtfbeeekakfllpaaDoorNk
namespace Go.Proofs.YtfbeeekakfllpaaDoor
open Go.RowKit
set_option linter.unusedVariables false
set_option linter.unusedSimpArgs false
/-- a fresh builder -/
def c0 (nm lot : Value) (asc : Bool) : Cb := ⟨.pointer none, .slice none 0 0, .slice none 0 0, nm, lot, ByteArray.empty, ⟨0, 0, 0, 0, 0, 0, false⟩, 0, 0, 0, -1, 0, false, asc, false, true⟩
def IsMk (lot : Value) (asc : Bool) (w : World) (e : Ending) (w' : World) : Prop := ∃ r, e = .returned (.agg (c0 (.map (some r)) lot asc).cells) ∧ w.heap.size ≤ r ∧ Mp w' r 0 (.map []) ∧ Below w.heap.size w w'
noncomputable def zc61 : Array Value := cellsOf ((zeroValue 61).run Tryd.prog default)
theorem alloc61 (w : World) : (Instr.alloc 61 true (.tuple #[])).run Tryd.prog w = .ok (.pointer (some ⟨w.heap.size, 0, none⟩)) (w.alloc (.cells zc61 61)) := by kernel_rfl
theorem size61 (nm : Value) (lot : Value) (asc : Bool) : zc61.size = (c0 nm lot asc).cells.size := by kernel_rfl
theorem info61 (nm : Value) (lot : Value) (asc : Bool) : (Tryd.prog.info? 61).map (·.size) = some (c0 nm lot asc).cells.size := by kernel_rfl
theorem one61 (r : Option Nat) (ao : Option Addr) (n cap : Nat) (asc : Bool) : (c0 (.map r) (.slice ao n cap) asc).cells.all (·.oneCell') = true := by kernel_rfl
theorem build61 (r : Option Nat) (ao : Option Addr) (n cap : Nat) (asc : Bool) (w : World) : (Instr.build 61 [(0, .pointer none), (10, .agg #[.int .i32 (-1)]), (4, .slice ao n cap), (13, .bool asc), (3, .map r), (15, .bool true)].toArray).run Tryd.prog w = .ok (.agg (c0 (.map r) (.slice ao n cap) asc).cells) w := by kernel_rfl
set_option maxRecDepth 100000 in
set_option maxHeartbeats 4000000 in
theorem mkb_any (ao : Option Addr) (n cap : Nat) (asc : Bool) (w : World) : Calls Tryd.prog 11 #[.pointer none, .slice ao n cap, .bool asc] w (IsMk (.slice ao n cap) asc w) := by
  have hmk := fun (w : World) => run_makeMap (P := Tryd.prog) 56 w
  have hB : Hid (Blk ((w.alloc (.cells zc61 61)).alloc (.map #[] 0)) w.heap.size 61 zc61) := Lib.hid ((Blk.new w 61 zc61).alloc _)
  have hM : Hid (Mp ((w.alloc (.cells zc61 61)).alloc (.map #[] 0)) (w.heap.size + 1) 0 (.map [])) := Lib.hid (by
    have := Mp.fresh (blk_new (w.alloc (.cells zc61 61)) (.map #[] 0))
    simpa using this)
  go_enter Tryd.func11, Tryd.ntmps11
  go_wp2_with (first
    | (refine wpList_alloc_zero rfl 61 rfl zc61 alloc61 ?_)
    | (refine wpList_build rfl 61 _ rfl [(0, .pointer none), (10, .agg #[.int .i32 (-1)]), (4, .slice ao n cap), (13, .bool asc), (3, .map (some (w.heap.size + 1))), (15, .bool true)] (by simp [Act.eval, go_sem]) (c0 (.map (some (w.heap.size + 1))) (.slice ao n cap) asc).cells (build61 _ _ _ _ _) ?_)
    | (refine wpList_store_blk rfl 61 _ _ rfl w.heap.size zc61 (c0 (.map (some (w.heap.size + 1))) (.slice ao n cap) asc).cells hB.out rfl rfl (size61 _ _ _) (info61 _ _ _) (one61 _ _ _ _ _) ?_; intro w5 hb5 hg5))
  simp only [Act.put]
  refine bodyPost_ret (v := .agg (c0 (.map (some (w.heap.size + 1))) (.slice ao n cap) asc).cells) (results_cell_row (d := _) Tryd.results11 _ _ w.heap.size 61 _ (0, 0) (by rfl) hb5 Tryd.underlying61 rfl (info61 _ _ _)) rfl ⟨_, rfl, by omega, hM.out.eq (hg5.block _ (by simp) (fun e => by have := Option.some.inj e; omega)), ?_⟩
  exact (((Below.refl _ w).alloc (Nat.le_refl _) _).alloc (by simp) _).grown hg5 (by simp; omega) (fun k e => by cases e; exact Nat.le_refl _)
end Go.Proofs.YtfbeeekakfllpaaDoor
