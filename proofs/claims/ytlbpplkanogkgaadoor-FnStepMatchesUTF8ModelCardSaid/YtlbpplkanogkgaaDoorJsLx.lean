/-
  The js lexer's state as FnStepMatchesUTF8Model uses it. No statement of the seat is proved here.
-/
import Derived.Test.YtlbpplkanogkgaaDoorRows
import Derived.WalkKit
import Derived.ProofKit
import Derived.WalkSpells
import Derived.WalkLawsBesides
import Derived.LoopTactic
import Derived.RegionTactic
import Derived.ChangeAlike
import Derived.BigQuiet
import Derived.Deep.QuietTactic
import Derived.WalkSmall
import Derived.Test.YtlbpplkanogkgaaDoorBase
namespace Go.Proofs.YtlbpplkanogkgaaDoor
open Go.RowKit
set_option linter.unusedVariables false
noncomputable def srcCells (s : ByteArray) : Array Value := cellsOf ((Instr.build 47 #[(2, .string s)]).run Tryd.prog default)
noncomputable def jsCells (s : ByteArray) (cur e n cp : Int) : Array Value := cellsOf ((Instr.build 69 #[(5, .agg (srcCells s)), (18, .int .i64 cur), (20, .int .i64 e), (21, .int .i64 n), (29, .int .i32 cp)]).run Tryd.prog default)
theorem build47 (s : ByteArray) (w : World) : (Instr.build 47 #[(2, .string s)]).run Tryd.prog w = .ok (.agg (srcCells s)) w := by kernel_rfl
theorem build69 (s : ByteArray) (c : Int) (w : World) : (Instr.build 69 #[(5, .agg (srcCells s)), (18, .int .i64 c)]).run Tryd.prog w = .ok (.agg (jsCells s c 0 0 0)) w := by kernel_rfl
theorem js14 (s : ByteArray) (c e n p : Int) : (jsCells s c e n p)[14]? = some (.string s) := by kernel_rfl
theorem js52 (s : ByteArray) (c e n p : Int) : (jsCells s c e n p)[52]? = some (.int .i64 c) := by kernel_rfl
theorem js54 (s : ByteArray) (c e n p : Int) : (jsCells s c e n p)[54]? = some (.int .i64 e) := by kernel_rfl
theorem js55 (s : ByteArray) (c e n p : Int) : (jsCells s c e n p)[55]? = some (.int .i64 n) := by kernel_rfl
theorem js66 (s : ByteArray) (c e n p : Int) : (jsCells s c e n p)[66]? = some (.int .i32 p) := by kernel_rfl
theorem jset52 (s : ByteArray) (c e n p x : Int) : (jsCells s c e n p).setIfInBounds 52 (.int .i64 x) = jsCells s x e n p := by kernel_rfl
theorem jset54 (s : ByteArray) (c e n p x : Int) : (jsCells s c e n p).setIfInBounds 54 (.int .i64 x) = jsCells s c x n p := by kernel_rfl
theorem jset55 (s : ByteArray) (c e n p x : Int) : (jsCells s c e n p).setIfInBounds 55 (.int .i64 x) = jsCells s c e x p := by kernel_rfl
theorem jset66 (s : ByteArray) (c e n p x : Int) : (jsCells s c e n p).setIfInBounds 66 (.int .i32 x) = jsCells s c e n x := by kernel_rfl
/-- a js lexer at block p -/
def Js (w : World) (p : Nat) (s : ByteArray) (c e n cp : Int) : Prop := Blk w p 69 (jsCells s c e n cp)
theorem Js.facts {w : World} {p : Nat} {s : ByteArray} {c e n cp : Int} (h : Js w p s c e n cp) : w.cell? ⟨p, 14, none⟩ = some (.string s) ∧ w.cell? ⟨p, 52, none⟩ = some (.int .i64 c) ∧ w.cell? ⟨p, 54, none⟩ = some (.int .i64 e) ∧ w.cell? ⟨p, 55, none⟩ = some (.int .i64 n) ∧ w.cell? ⟨p, 66, none⟩ = some (.int .i32 cp) :=
  ⟨(h.cell 14).trans (js14 ..), (h.cell 52).trans (js52 ..), (h.cell 54).trans (js54 ..), (h.cell 55).trans (js55 ..), (h.cell 66).trans (js66 ..)⟩
theorem js_end (p : Nat) (s : ByteArray) (c e n cp : Int) (w : World) (h : Js w p s c e n cp) : Calls Tryd.prog 13 #[.pointer (some ⟨p, 0, none⟩)] w fun r w' => r = .returned (.int .i64 e) ∧ w' = w := by
  obtain ⟨c1, c2, c3, c4, c5⟩ := h.facts
  go_enter Tryd.func13, Tryd.ntmps13
  go_wp2
  go_ret
  exact ⟨rfl, rfl⟩
theorem js_cp (p : Nat) (s : ByteArray) (c e n cp : Int) (w : World) (h : Js w p s c e n cp) : Calls Tryd.prog 14 #[.pointer (some ⟨p, 0, none⟩)] w fun r w' => r = .returned (.int .i32 cp) ∧ w' = w := by
  obtain ⟨c1, c2, c3, c4, c5⟩ := h.facts
  go_enter Tryd.func14, Tryd.ntmps14
  go_wp2
  go_ret
  exact ⟨rfl, rfl⟩
theorem js_cur (p : Nat) (s : ByteArray) (c e n cp : Int) (w : World) (h : Js w p s c e n cp) : Calls Tryd.prog 15 #[.pointer (some ⟨p, 0, none⟩)] w fun r w' => r = .returned (.int .i64 c) ∧ w' = w := by
  obtain ⟨c1, c2, c3, c4, c5⟩ := h.facts
  go_enter Tryd.func15, Tryd.ntmps15
  go_wp2
  go_ret
  exact ⟨rfl, rfl⟩
theorem js_bytes (s : ByteArray) (c n : Int) (w : World) (h : s.size ≤ 1048576) : Calls Tryd.prog 10 #[.string s, .int .i64 c, .int .i64 n] w fun r w' => r = .returned (.bool true) ∧ w' = w := by
  go_enter Tryd.func10, Tryd.ntmps10
  go_wp2
  go_ret
  exact ⟨rfl, rfl⟩
theorem js_bytes_no (s : ByteArray) (c n : Int) (w : World) (h : 1048576 < s.size) (hm : s.size ≤ 140737488355328) : Calls Tryd.prog 10 #[.string s, .int .i64 c, .int .i64 n] w fun r w' => r = .returned (.bool false) ∧ w' = w := by
  go_enter Tryd.func10, Tryd.ntmps10
  go_wp2
  go_ret
  exact ⟨rfl, rfl⟩
def IsJs (w : World) (s : ByteArray) (c : Int) (r : Ending) (w' : World) : Prop := ∃ p, r = .returned (.pointer (some ⟨p, 0, none⟩)) ∧ Js w' p s c 0 0 0 ∧ w.heap.size ≤ p ∧ Below w.heap.size w w'
theorem js_new (s : ByteArray) (c : Int) (w : World) : Calls Tryd.prog 11 #[.string s, .int .i64 c] w (IsJs w s c) := by
  go_enter Tryd.func11, Tryd.ntmps11
  go_wp2_with (first | (refine wpList_build rfl 47 _ rfl [(2, .string s)] rfl (srcCells s) (build47 s) ?_) | (refine wpList_build rfl 69 _ rfl [(5, .agg (srcCells s)), (18, .int .i64 c)] rfl (jsCells s c 0 0 0) (build69 s c) ?_))
  go_ret
  exact ⟨_, rfl, Blk.new _ _ _, Nat.le_refl _, (Below.refl _ _).alloc (Nat.le_refl _) _⟩
end Go.Proofs.YtlbpplkanogkgaaDoor
