/-
  buildAdvance: the two files of the law, laid. No statement of the seat is proved here.
-/
import Derived.Test.YtgollalliomhfaaDoorSm
import Derived.Test.YtgollalliomhfaaDoorMv
import Derived.KernelRfl
import Derived.WideMake
import Derived.DeepKeys4
import Derived.MapViews
import Derived.ChangeSame
import Derived.Deep.OwnRows
namespace Go.Proofs.YtgollalliomhfaaDoor
open Go.Maps Go.ChangeShapes Go.WideShapes Go.RowKit
set_option linter.unusedVariables false
set_option linter.unusedSimpArgs false

/-! the key ast.Ref -/
def refV (a b : Int) : Value := .agg #[.int .u32 a, .int .u32 b]
noncomputable def kr0 : Lit := (keyOf Tryd.prog 31 (refV 0 0)).getD (.int .i64 0)
theorem laidOut1 : laidOutB Tryd.prog = true := by kernel_rfl
theorem row31 : (31 : TypeId) < Tryd.prog.types.size := of_decide_eq_true (by kernel_rfl)
theorem wide31 : (match Tryd.prog.underlying 31 with | some (.array _ _) | some (.struct _) => true | _ => false) = true := by rw [Tryd.underlying31]
theorem at31 : Tryd.prog.keyTypeAt 4 31 = true := by kernel_rfl
set_option maxRecDepth 100000 in
theorem law31 : WideMaps.KeyLaw Tryd.prog 31 := deep_law_laid laidOut1 (m := 4) (by omega) row31 at31 wide31
theorem keyed31 : Keyed Tryd.prog 31 := Keyed.of_law law31
theorem deep31 : Tryd.prog.keyTypeAt (Tryd.prog.types.size + 1) 31 = true := by kernel_rfl
theorem cells31 : Tryd.prog.cellsOf 31 = 2 := by kernel_rfl
theorem cells29 : Tryd.prog.cellsOf 29 = 1 := by kernel_rfl
set_option maxRecDepth 100000 in
theorem key_trod (w : World) : ∃ d, DataW.Trod (H := Unit) (fun _ => ()) Tryd.prog w 0 (fun _ => true) true 31 (refV 0 0) d [] := by
  have i0 : DataW.trod (H := Unit) (fun _ => ()) Tryd.prog w 0 (fun _ => true) true 2 29 [.int .u32 0] = some (.lit (.int .u32 0), []) := trod_int_mk 1 Tryd.underlying29 (by decide)
  have s31 := trod_struct_mk (enc := fun _ => ()) (w := w) (base := 0) (spare := fun _ => true) (held := true) (n := 2) (xs := [(.lit (.int .u32 0), []), (.lit (.int .u32 0), [])]) (cs := [.int .u32 0, .int .u32 0]) Tryd.underlying31 (by rw [cells31]; rfl)
    (by simp [cells29, i0])
  exact ⟨_, 3, by simpa [refV, Value.cells] using s31⟩
set_option maxRecDepth 100000 in
theorem keyOf_0 : keyOf Tryd.prog 31 (refV 0 0) = some kr0 := by
  obtain ⟨d, hd⟩ := key_trod default
  have h := (keyOf_asKey deep31 wide31 (by simp [Value.formed, Tryd.underlying31, refV, cells31]) hd).1
  unfold kr0
  rw [h]; rfl
set_option maxRecDepth 100000 in
theorem kl0 : WideAt.IsKeyLit kr0 := keyed31.key keyOf_0

/-! what is laid -/
noncomputable def zjs : Array Value := cellsOf ((Instr.build 85 #[]).run Tryd.prog default)
theorem build85 (w : World) : (Instr.build 85 #[]).run Tryd.prog w = .ok (.agg zjs) w := by kernel_rfl
theorem zjs_size : zjs.size = 64 := by kernel_rfl
theorem zjs3 : zjs[3]? = some (.pointer none) := by kernel_rfl
noncomputable def zrc : Array Value := cellsOf ((zeroValue 101).run Tryd.prog default)
theorem info101 : (Tryd.prog.info? 101).map (fun i => (i.zero, i.size, i.bytes)) = some (some (.agg zrc), 15, 112) := by kernel_rfl
theorem zrc_made : madeCells (Value.agg zrc).cells 15 = zrc := by kernel_rfl
theorem zrc_size : zrc.size = 15 := by kernel_rfl
theorem zrc10 : zrc[10]? = some (.int .u32 0) := by kernel_rfl
theorem mm75 (w : World) : (Instr.makeMap 75 none).run Tryd.prog w = .ok (.map (some w.heap.size)) (w.alloc (.map #[] 0)) := by
  have h := run_underlying Tryd.underlying75 w
  simp [Instr.makeMap, h, Result.andThen, go_sem]
theorem mm45 (w : World) : (Instr.makeMap 45 none).run Tryd.prog w = .ok (.map (some w.heap.size)) (w.alloc (.map #[] 0)) := by
  have h := run_underlying Tryd.underlying45 w
  simp [Instr.makeMap, h, Result.andThen, go_sem]
def niC (a : ByteArray) (star ex : Bool) : Array Value := #[.string a, .slice none 0 0, .int .i32 0, .int .u32 0, .int .u32 0, .int .u32 0, .bool star, .bool ex]
theorem build87 (a : ByteArray) (star ex : Bool) (w : World) : (Instr.build 87 #[(0, .string a), (5, .bool star), (6, .bool ex)]).run Tryd.prog w = .ok (.agg (niC a star ex)) w := by kernel_rfl
/-- the export data of alias j -/
def edC (A : Nat) (j : Int) : Array Value := #[.slice (some ⟨A, 0, none⟩) 1 1, .int .u32 1, .int .u32 j, .int .i32 (j + 1), .int .u32 (j + 5)]
def ed (B j : Nat) : Value := .agg (edC (B + 2 * j + 1) (j : Int))
def imC (s : Int) : Array Value := #[.slice none 0 0, .int .i32 0, .int .u32 0, .int .u32 0, .int .u32 s]
def im2 : Array Value := #[.slice none 0 0, .int .i32 0, .int .u32 0, .int .u32 0, .int .u32 4, .slice none 0 0, .int .i32 0, .int .u32 0, .int .u32 0, .int .u32 6]
def stC (A : Nat) : Array Value := #[.slice (some ⟨A, 0, none⟩) 2 2, .int .u32 3, .int .u32 77, .int .i32 99, .int .u32 3]
def rvI (rv : Bool) : Int := if rv then 4294967294 else 0
def ldI (t : Bool) : Int := if t then 16 else 10
def starP (so : Option Nat) : Value := .pointer (so.map fun S => ⟨S, 0, none⟩)
/-- the importer and its record -/
structure Ip (w : World) (P R M1 : Nat) (a : ByteArray) (star ex rv : Bool) : Prop where
  p : ∃ cs, Blk w P 85 cs ∧ cs[35]? = some (.slice (some ⟨R, 0, none⟩) 1 1) ∧ cs[36]? = some (.map (some M1))
  r : ∃ cs, Blk w R 101 cs ∧ cs[10]? = some (.int .u32 (rvI rv))
  m : Mv Tryd.prog 31 w M1 1 ((DataW.map []).put kr0 (.held (.agg (niC a star ex))))
theorem Ip.gb {w w' : World} {P R M1 : Nat} {a : ByteArray} {star ex rv : Bool} (h : Ip w P R M1 a star ex rv) {r : Option Nat} (hg : w.grownBy w' r) (hP : some P ≠ r) (hR : some R ≠ r) (hM : some M1 ≠ r) : Ip w' P R M1 a star ex rv := by
  obtain ⟨cs, h1, h2⟩ := h.p
  obtain ⟨ds, k1, k2⟩ := h.r
  exact ⟨⟨cs, h1.gb hg hP, h2⟩, ⟨ds, k1.gb hg hR, k2⟩, World.ownsMap.kept h.m hg hM⟩
/-- the flags of the imported file -/
structure Of (cs : Array Value) (M2 : Nat) (so : Option Nat) (lazy : Bool) (kl : Int) (ur um : Bool) (kd : Int) : Prop where
  sz : cs.size = 64
  c2 : cs[2]? = some (.map (some M2))
  c3 : cs[3]? = some (starP so)
  c43 : cs[43]? = some (.int .i32 kl)
  c48 : cs[48]? = some (.int .u32 1)
  c49 : cs[49]? = some (.int .u32 1073741824)
  c59 : cs[59]? = some (.bool lazy)
  c60 : cs[60]? = some (.bool ur)
  c61 : cs[61]? = some (.bool um)
  c62 : cs[62]? = some (.int .u8 kd)
noncomputable def oC (M2 : Nat) (lazy : Bool) (kl : Int) (ur um : Bool) (kd : Int) : Array Value := ((((((((zjs.setIfInBounds 59 (.bool lazy)).setIfInBounds 43 (.int .i32 kl)).setIfInBounds 60 (.bool ur)).setIfInBounds 61 (.bool um)).setIfInBounds 62 (.int .u8 kd)).setIfInBounds 48 (.int .u32 1)).setIfInBounds 49 (.int .u32 1073741824)).setIfInBounds 2 (.map (some M2)))
theorem of_o (M2 : Nat) (lazy : Bool) (kl : Int) (ur um : Bool) (kd : Int) : Of (oC M2 lazy kl ur um kd) M2 none lazy kl ur um kd :=
  ⟨by kernel_rfl, by kernel_rfl, by kernel_rfl, by kernel_rfl, by kernel_rfl, by kernel_rfl, by kernel_rfl, by kernel_rfl, by kernel_rfl, by kernel_rfl⟩
theorem of_star (M2 S : Nat) (lazy : Bool) (kl : Int) (ur um : Bool) (kd : Int) : Of ((oC M2 lazy kl ur um kd).setIfInBounds 3 (.pointer (some ⟨S, 0, none⟩))) M2 (some S) lazy kl ur um kd :=
  ⟨by kernel_rfl, by kernel_rfl, by kernel_rfl, by kernel_rfl, by kernel_rfl, by kernel_rfl, by kernel_rfl, by kernel_rfl, by kernel_rfl, by kernel_rfl⟩
theorem Blk.has {w : World} {S : Nat} {t : TypeId} {cs : Array Value} (h : Blk w S t cs) {i : Nat} (hi : i < cs.size) : ∃ u, w.cell? ⟨S, i, none⟩ = some u := ⟨cs[i], by rw [h.cell, Array.getElem?_eq_getElem hi]⟩
/-- the resolved exports behind the first i aliases -/
structure Rx (w : World) (M2 B i : Nat) (ts : List ByteArray) : Prop where
  m : ∃ D, Mv Tryd.prog 9 w M2 i D ∧ Lms D ts (ed B) i
  amb : ∀ j, j < i → Blk w (B + 2 * j + 1) 40 (imC ((j : Int) + 7))
theorem Rx.gb {w w' : World} {M2 B i : Nat} {ts : List ByteArray} (h : Rx w M2 B i ts) {r : Option Nat} (hg : w.grownBy w' r) (hM : some M2 ≠ r) (hr : ∀ b, r = some b → ∀ j, j < i → b ≠ B + 2 * j + 1) : Rx w' M2 B i ts := by
  obtain ⟨D, h1, h2⟩ := h.m
  exact ⟨⟨D, World.ownsMap.kept h1 hg hM, h2⟩, fun j hj => (h.amb j hj).gb hg (fun e => hr _ e.symm j hj rfl)⟩
end Go.Proofs.YtgollalliomhfaaDoor
