/-
  Rows of slots; the key of the map of uses; what that map holds. No statement of the seat is proved here.
-/
import Derived.Test.YtnfjfjcdehohhaaDoorNew
import Derived.Deep.Slices
import Derived.KernelRfl
import Derived.Deep.AppendLies
import Derived.Deep.RegionHeldLaw
import Derived.Deep.RegionLaw
import Derived.Deep.DrawnRows
import Derived.Maps.RangeWalk
namespace Go.Proofs.YtnfjfjcdehohhaaDoor
open Go.Maps Go.ChangeShapes Go.WideShapes Go.RowKit
set_option linter.unusedVariables false
set_option linter.unusedSimpArgs false

/-- a row of n slots without names -/
def SlAt (w : World) (B g n cap : Nat) : Prop := ∃ cur, B ≤ g ∧ Blk w g 87 cur ∧ n ≤ cap ∧ cap ≤ maxLen ∧ cur.size = cap * 3 ∧ ∀ j, j < n → cur[j * 3]? = some (.string e0) ∧ (∃ c : Int, cur[j * 3 + 1]? = some (.int .u32 c)) ∧ ∃ d : Int, cur[j * 3 + 2]? = some (.int .u32 d)
theorem SlAt.gb {w w' : World} {B g n cap : Nat} {r : Option Nat} (h : SlAt w B g n cap) (hg : w.grownBy w' r) (hne : some g ≠ r) : SlAt w' B g n cap := by
  obtain ⟨cur, h1, h2, h3⟩ := h
  exact ⟨cur, h1, h2.gb hg hne, h3⟩
theorem SlAt.drew {w : World} {B g n cap : Nat} (h : SlAt w B g n cap) : SlAt w.drew B g n cap := h
theorem zs_size (c : Nat) : (zs c).size = c * 3 := by simp [zs, madeCells]
theorem zs_at (c j : Nat) (h : j < c) : (zs c)[j * 3]? = some (.string e0) ∧ (zs c)[j * 3 + 1]? = some (.int .u32 0) ∧ (zs c)[j * 3 + 2]? = some (.int .u32 0) := by
  have h1 : (j * 3) % 3 = 0 := by omega
  have h2 : (j * 3 + 1) % 3 = 1 := by omega
  have h3 : (j * 3 + 2) % 3 = 2 := by omega
  refine ⟨?_, ?_, ?_⟩ <;> (rw [Array.getElem?_eq_getElem (by rw [zs_size]; omega)]; simp [zs, madeCells, zslot, h1, h2, h3])
theorem SlAt.made {w : World} {B g c : Nat} (h : Blk w g 87 (zs c)) (hB : B ≤ g) (hc : c ≤ 65536) : SlAt w B g c c :=
  ⟨_, hB, h, Nat.le_refl _, by unfold maxLen; omega, zs_size c, fun j hj => ⟨(zs_at c j hj).1, ⟨0, (zs_at c j hj).2.1⟩, ⟨0, (zs_at c j hj).2.2⟩⟩⟩
/-- a count is stored -/
theorem SlAt.set {w : World} {B g n cap : Nat} (h : SlAt w B g n cap) (j : Nat) (c : Int) : SlAt (w.setCell ⟨g, j * 3 + 1, none⟩ (.int .u32 c)) B g n cap := by
  obtain ⟨cur, h1, h2, h3, h4, h5, h6⟩ := h
  refine ⟨_, h1, h2.set _ _, h3, h4, by simp [h5], fun i hi => ?_⟩
  obtain ⟨q1, q2, q3⟩ := h6 i hi
  refine ⟨?_, ?_, ?_⟩
  · rw [Array.getElem?_setIfInBounds_ne (by omega)]; exact q1
  · by_cases e : i = j
    · subst e
      exact ⟨c, Array.getElem?_setIfInBounds_self_of_lt (by rw [h5]; omega)⟩
    · rw [Array.getElem?_setIfInBounds_ne (by omega)]; exact q2
  · rw [Array.getElem?_setIfInBounds_ne (by omega)]; exact q3
theorem SlAt.lt {w : World} {B g n cap : Nat} (h : SlAt w B g n cap) : g < w.heap.size := by
  obtain ⟨cur, h1, h2, _⟩ := h
  exact h2.lt
theorem blk_ne {w : World} {g g' : Nat} {t t' : TypeId} {cs cs' : Array Value} (h : Blk w g t cs) (h' : Blk w g' t' cs') (hne : t ≠ t') : g ≠ g' := by
  rintro rfl
  unfold Blk at h h'
  rw [h] at h'
  injection h' with h'
  injection h' with _ ht
  exact hne ht
theorem SlAt.ne {w : World} {B g n cap g' : Nat} {t' : TypeId} {cs' : Array Value} (h : SlAt w B g n cap) (h' : Blk w g' t' cs') (hne : t' ≠ 87) : g ≠ g' := by
  obtain ⟨cur, _, h2, _⟩ := h
  exact blk_ne h2 h' (Ne.symm hne)
theorem Sy.cell {w : World} {T S tl n : Nat} {ks : Array Value} {root rk : Nat → Nat} (h : Sy w T S tl n ks root rk) {j : Nat} (h2 : j % 10 ≠ 2) (h3 : j % 10 ≠ 3) : w.cell? ⟨S, j, none⟩ = ks[j]? := by
  obtain ⟨ts, cs, q1, q2, q3, q4, q5, q6, q7, q8⟩ := h.out
  rw [q5.cell, q7 _ h2 h3]
theorem has_any (w : World) : Calls Tryd.prog 29 #[.int .u16 0, .int .u16 2] w fun e w' => e = .returned (.bool false) ∧ w' = w := by
  have hb : bits BinOp.and IntKind.u16 0 2 = 0 := by decide
  go_enter Tryd.func29, Tryd.ntmps29
  go_wp2
  go_ret
  exact ⟨rfl, rfl⟩

theorem gb_drewN (w : World) (d : Nat) : w.grownBy (w.drewN d) none := ⟨rfl, rfl, rfl, Nat.le_refl _, fun _ _ _ => rfl⟩
def keyV (t : Nat) : Value := .agg #[.int .u32 0, .int .u32 (t : Int)]
noncomputable def kr (t : Nat) : Lit := (keyOf Tryd.prog 42 (keyV t)).getD (.int .i64 0)
theorem laidOut1 : laidOutB Tryd.prog = true := by kernel_rfl
theorem row42 : (42 : TypeId) < Tryd.prog.types.size := of_decide_eq_true (by kernel_rfl)
theorem wide42 : (match Tryd.prog.underlying 42 with | some (.array _ _) | some (.struct _) => true | _ => false) = true := by rw [Tryd.underlying42]
theorem at42 : Tryd.prog.keyTypeAt 4 42 = true := by kernel_rfl
set_option maxRecDepth 100000 in
theorem law42 : WideMaps.KeyLaw Tryd.prog 42 := deep_law_laid laidOut1 (m := 4) (by omega) row42 at42 wide42
theorem keyed42 : Keyed Tryd.prog 42 := Keyed.of_law law42
theorem deep42 : Tryd.prog.keyTypeAt (Tryd.prog.types.size + 1) 42 = true := by kernel_rfl
theorem cells42 : Tryd.prog.cellsOf 42 = 2 := by kernel_rfl
theorem cells25 : Tryd.prog.cellsOf 24 = 1 := by kernel_rfl
theorem zero25 (w : World) : (zeroValue 24).run Tryd.prog w = .ok (.int .u32 0) w := by kernel_rfl
theorem u32_wf {x : Int} (h0 : 0 ≤ x) (h1 : x < 4294967296) : (Lit.int .u32 x).wf = true := by
  simp [Lit.wf, IntKind.min, IntKind.max, IntKind.bits, IntKind.signed]; omega
set_option maxRecDepth 100000 in
theorem key_trod (t : Nat) (ht : t < 4294967296) (w : World) : ∃ d, DataW.Trod (H := Unit) (fun _ => ()) Tryd.prog w 0 (fun _ => true) true 42 (keyV t) d [] := by
  have i0 : DataW.trod (H := Unit) (fun _ => ()) Tryd.prog w 0 (fun _ => true) true 2 24 [.int .u32 0] = some (.lit (.int .u32 0), []) := trod_int_mk 1 Tryd.underlying24 (by decide)
  have i1 : DataW.trod (H := Unit) (fun _ => ()) Tryd.prog w 0 (fun _ => true) true 2 24 [.int .u32 (t : Int)] = some (.lit (.int .u32 t), []) := trod_int_mk 1 Tryd.underlying24 (u32_wf (by omega) (by omega))
  have s42 := trod_struct_mk (enc := fun _ => ()) (w := w) (base := 0) (spare := fun _ => true) (held := true) (n := 2) (xs := [(.lit (.int .u32 0), []), (.lit (.int .u32 t), [])]) (cs := [.int .u32 0, .int .u32 (t : Int)]) Tryd.underlying42 (by rw [cells42]; rfl)
    (by simp [cells25, i0, i1])
  exact ⟨_, 3, by simpa [keyV, Value.cells] using s42⟩
set_option maxRecDepth 100000 in
theorem keyOf_key (t : Nat) (ht : t < 4294967296) : keyOf Tryd.prog 42 (keyV t) = some (kr t) := by
  obtain ⟨d, hd⟩ := key_trod t ht default
  have h := (keyOf_asKey deep42 wide42 (by simp [Value.formed, Tryd.underlying42, keyV, cells42]) hd).1
  unfold kr
  rw [h]; rfl
theorem kr_inj (s t : Nat) (hs : s < 4294967296) (ht : t < 4294967296) (e : kr s = kr t) : s = t := by
  have h1 := keyOf_key s hs
  rw [e] at h1
  have h2 := keyed42.inj h1 (keyOf_key t ht)
  have h3 : (s : Int) = (t : Int) := by simpa [keyV] using h2
  omega
theorem kr_lit (t : Nat) (ht : t < 4294967296) : WideAt.IsKeyLit (kr t) := keyed42.key (keyOf_key t ht)
end Go.Proofs.YtnfjfjcdehohhaaDoor
