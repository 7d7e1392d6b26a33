/-
  The map's key at this seat: a path of one text, and what it reads as; the frame 'all blocks but those of a list'.
-/
import Derived.Test.YtfhhjahaolgoaaaProg
import Derived.Test.YtfhhjahaolgoaaaBase
import Derived.Test.YtfhhjahaolgoaaaIx
import Derived.DeepKeys4
import Derived.MapViews
import Derived.ChangeSame
import Derived.Deep.Slices
import Derived.KernelRfl
namespace Go.Proofs.Ytfhhjahaolgoaaa
open Go.Maps Go.ChangeShapes Go.WideShapes Go.RowKit

def e0 : ByteArray := { data := #[] }
/-- the path of a text -/
def pathV (t : ByteArray) : Value := .agg #[.string t, .string e0, .string e0, .string e0, .int .u8 0]
def keyV (t : ByteArray) : Value := .agg #[.string t, .string e0, .string e0, .string e0, .int .u8 0, .int .u8 0]
noncomputable def kl (t : ByteArray) : Lit := (keyOf Try.prog 136 (keyV t)).getD (.int .i64 0)

theorem laidOut1 : laidOutB Try.prog = true := by kernel_rfl
theorem row136 : (136 : TypeId) < Try.prog.types.size := of_decide_eq_true (by kernel_rfl)
theorem wide136 : (match Try.prog.underlying 136 with | some (.array _ _) | some (.struct _) => true | _ => false) = true := by rw [Try.underlying136]
theorem at136 : Try.prog.keyTypeAt 4 136 = true := by kernel_rfl
set_option maxRecDepth 100000 in
theorem law136 : WideMaps.KeyLaw Try.prog 136 := deep_law_laid laidOut1 (m := 4) (by omega) row136 at136 wide136
theorem keyed136 : Keyed Try.prog 136 := Keyed.of_law law136
theorem deep136 : Try.prog.keyTypeAt (Try.prog.types.size + 1) 136 = true := by kernel_rfl
theorem cells136 : Try.prog.cellsOf 136 = 6 := by kernel_rfl
theorem cells108 : Try.prog.cellsOf 108 = 5 := by kernel_rfl
theorem cells105 : Try.prog.cellsOf 105 = 1 := by kernel_rfl
theorem cells109 : Try.prog.cellsOf 109 = 1 := by kernel_rfl
theorem cells106 : Try.prog.cellsOf 106 = 1 := by kernel_rfl
theorem cells9 : Try.prog.cellsOf 9 = 1 := by kernel_rfl
theorem zero26 (w : World) : (zeroValue 26).run Try.prog w = .ok (.int .u32 0) w := by kernel_rfl

set_option maxRecDepth 100000 in
theorem key_trod (t : ByteArray) (ht : t.size ≤ maxLen) (w : World) : ∃ d, DataW.Trod (H := Unit) (fun _ => ()) Try.prog w 0 (fun _ => true) true 136 (keyV t) d [] := by
  have s9 : ∀ (m : Nat) (s : ByteArray), s.size ≤ maxLen → DataW.trod (H := Unit) (fun _ => ()) Try.prog w 0 (fun _ => true) true (m + 1) 9 [.string s] = some (.lit (.string s.data.toList), []) := fun m s hs => by
    simp [DataW.trod, Try.underlying9, hs]
  have z0 : e0.size ≤ maxLen := by decide
  have i109 : DataW.trod (H := Unit) (fun _ => ()) Try.prog w 0 (fun _ => true) true 3 109 [.int .u8 0] = some (.lit (.int .u8 0), []) := trod_int_mk 2 Try.underlying109 (by decide)
  have i106 : DataW.trod (H := Unit) (fun _ => ()) Try.prog w 0 (fun _ => true) true 2 106 [.int .u8 0] = some (.lit (.int .u8 0), []) := trod_int_mk 1 Try.underlying106 (by decide)
  have s105 := trod_struct_mk (enc := fun _ => ()) (w := w) (base := 0) (spare := fun _ => true) (held := true) (n := 1) (xs := [(.lit (.string e0.data.toList), [])]) (cs := [.string e0]) Try.underlying105 (by rw [cells105]; rfl) (by simp [cells9, s9 0 e0 z0])
  have s108 := trod_struct_mk (enc := fun _ => ()) (w := w) (base := 0) (spare := fun _ => true) (held := true) (n := 2) (xs := [(.lit (.string t.data.toList), []), (.lit (.string e0.data.toList), []), (.lit (.string e0.data.toList), []), _, (.lit (.int .u8 0), [])]) (cs := [.string t, .string e0, .string e0, .string e0, .int .u8 0]) Try.underlying108 (by rw [cells108]; rfl)
    (by simp [cells9, cells105, cells106, s9 1 e0 z0, s9 1 t ht, i106, s105]; rfl)
  have s136 := trod_struct_mk (enc := fun _ => ()) (w := w) (base := 0) (spare := fun _ => true) (held := true) (n := 3) (xs := [_, (.lit (.int .u8 0), [])]) (cs := [.string t, .string e0, .string e0, .string e0, .int .u8 0, .int .u8 0]) Try.underlying136 (by rw [cells136]; rfl)
    (by simp [cells108, cells109, i109, s108]; rfl)
  exact ⟨_, 4, by simpa [keyV, Value.cells] using s136⟩

set_option maxRecDepth 100000 in
theorem keyOf_key (t : ByteArray) (ht : t.size ≤ maxLen) : keyOf Try.prog 136 (keyV t) = some (kl t) := by
  obtain ⟨d, hd⟩ := key_trod t ht default
  have h := (keyOf_asKey deep136 wide136 (by simp [Value.formed, Try.underlying136, keyV, cells136]) hd).1
  unfold kl
  rw [h]; rfl

set_option maxRecDepth 100000 in
theorem keys1 : Keys1 kl :=
  ⟨fun t ht => keyed136.key (keyOf_key t ht), fun s t hs ht e => by
    have h1 := keyOf_key s hs
    rw [e] at h1
    have h2 := keyed136.inj h1 (keyOf_key t ht)
    simpa [keyV] using h2⟩

/-! what a call may turn: the blocks of a list, and new ones -/
structure Ex (w : World) (l : List Nat) (w' : World) : Prop where
  os : w'.os = w.os
  tape : w'.tape = w.tape
  output : w'.output = w.output
  size : w.heap.size ≤ w'.heap.size
  block : ∀ i, i < w.heap.size → i ∉ l → w'.heap[i]? = w.heap[i]?
theorem Ex.refl (w : World) (l : List Nat) : Ex w l w := ⟨rfl, rfl, rfl, Nat.le_refl _, fun _ _ _ => rfl⟩
theorem Ex.trans {a b c : World} {l : List Nat} (h : Ex a l b) (k : Ex b l c) : Ex a l c :=
  ⟨k.os.trans h.os, k.tape.trans h.tape, k.output.trans h.output, Nat.le_trans h.size k.size, fun i hi hl => (k.block i (Nat.lt_of_lt_of_le hi h.size) hl).trans (h.block i hi hl)⟩
theorem Ex.mono {a b : World} {l l' : List Nat} (h : Ex a l b) (hl : ∀ i ∈ l, i ∈ l') : Ex a l' b := ⟨h.os, h.tape, h.output, h.size, fun i hi hn => h.block i hi (fun e => hn (hl i e))⟩
theorem Ex.gb {a b c : World} {l : List Nat} {row : Option Nat} (h : Ex a l b) (g : b.grownBy c row) (hr : ∀ k, row = some k → k ∈ l ∨ a.heap.size ≤ k) : Ex a l c :=
  ⟨g.os.trans h.os, g.tape.trans h.tape, g.output.trans h.output, Nat.le_trans h.size g.size, fun i hi hl => (g.block i (Nat.lt_of_lt_of_le hi h.size) (fun e => by
    rcases hr i e.symm with h1 | h1
    · exact hl h1
    · omega)).trans (h.block i hi hl)⟩
theorem Ex.set {a b : World} {l : List Nat} (h : Ex a l b) {k : Nat} (hk : k ∈ l ∨ a.heap.size ≤ k) (i : Nat) (v : Value) : Ex a l (b.setCell ⟨k, i, none⟩ v) :=
  h.gb (gb_set (gb_refl b (some k)) i none v) (fun _ e => by cases e; exact hk)
theorem Ex.alloc {a b : World} {l : List Nat} (h : Ex a l b) (o : Obj) : Ex a l (b.alloc o) := h.gb (World.grownBy_alloc b o none) (fun _ e => by cases e)
theorem Ex.drew {a b : World} {l : List Nat} (h : Ex a l b) : Ex a l b.drew := ⟨h.os, h.tape, h.output, h.size, h.block⟩
theorem Ex.blk {w w' : World} {l : List Nat} {b : Nat} {t : TypeId} {cs : Array Value} (h : Ex w l w') (hb : Blk w b t cs) (hl : b ∉ l) : Blk w' b t cs := (h.block b hb.lt hl).trans hb
theorem Ex.heap {w w' : World} {l : List Nat} {b : Nat} {o : Obj} (h : Ex w l w') (hb : w.heap[b]? = some o) (hl : b ∉ l) : w'.heap[b]? = some o := (h.block b (blk_lt hb) hl).trans hb
theorem Ex.below {B : Nat} {w w' : World} {l : List Nat} (h : Ex w l w') (hB : B ≤ w.heap.size) (hl : ∀ i ∈ l, B ≤ i) : Below B w w' :=
  { os := h.os, tape := h.tape, output := h.output, size := h.size, block := fun i hi => h.block i (Nat.lt_of_lt_of_le hi hB) (fun e => by have := hl i e; omega) }
end Go.Proofs.Ytfhhjahaolgoaaa
