/-
  Rows of slots; the key of the map of uses; what that map holds. No statement of the seat is proved here.
-/
import Derived.Test.YtmpfgkiljfoicaaDoorNew
import Derived.Test.YtmpfgkiljfoicaaDoorPm
import Derived.Deep.Slices
import Derived.Laws.BitsLemmas
import Derived.Laws.BitsAllLaws
import Derived.Deep.LoopGhost
import Derived.KernelRfl
import Derived.Deep.AppendLies
import Derived.Deep.RegionHeldLaw
import Derived.Deep.RegionLaw
import Derived.Deep.DrawnRows
import Derived.Maps.RangeWalk
namespace Go.Proofs.YtmpfgkiljfoicaaDoor
open Go.Maps Go.ChangeShapes Go.WideShapes Go.RowKit
set_option linter.unusedVariables false
set_option linter.unusedSimpArgs false

/-- a row of c slots: the counts and the marks behind the symbols of L -/
def SlAt (m : Pm) (w : World) (B g : Nat) (a : Int) (L : List Nat) : Prop := ∃ cur, B ≤ g ∧ Blk w g 84 cur ∧ cur.size = m.c * 3 ∧ ∀ j, j < m.c → cur[j * 3]? = some (.string e0) ∧ cur[j * 3 + 1]? = some (.int .u32 (m.cF a j L)) ∧ cur[j * 3 + 2]? = some (.int .u32 (m.fF a j L))
theorem SlAt.gb {m : Pm} {w w' : World} {B g : Nat} {a : Int} {L : List Nat} {r : Option Nat} (h : SlAt m w B g a L) (hg : w.grownBy w' r) (hne : some g ≠ r) : SlAt m w' B g a L := by
  obtain ⟨cur, h1, h2, h3⟩ := h
  exact ⟨cur, h1, h2.gb hg hne, h3⟩
theorem SlAt.kept {m : Pm} {w w' : World} {B g : Nat} {a : Int} {L : List Nat} (h : SlAt m w B g a L) (hb : Below w.heap.size w w') : SlAt m w' B g a L := by
  obtain ⟨cur, h1, h2, h3⟩ := h
  exact ⟨cur, h1, h2.kept hb, h3⟩
theorem zs_size (c : Nat) : (zs c).size = c * 3 := by simp [zs, madeCells]
theorem zs_at (c j : Nat) (h : j < c) : (zs c)[j * 3]? = some (.string e0) ∧ (zs c)[j * 3 + 1]? = some (.int .u32 0) ∧ (zs c)[j * 3 + 2]? = some (.int .u32 0) := by
  have h1 : (j * 3) % 3 = 0 := by omega
  have h2 : (j * 3 + 1) % 3 = 1 := by omega
  have h3 : (j * 3 + 2) % 3 = 2 := by omega
  refine ⟨?_, ?_, ?_⟩ <;> (rw [Array.getElem?_eq_getElem (by rw [zs_size]; omega)]; simp [zs, madeCells, zslot, h1, h2, h3])
theorem SlAt.made {m : Pm} {w : World} {B g : Nat} (a : Int) (h : Blk w g 84 (zs m.c)) (hB : B ≤ g) : SlAt m w B g a [] :=
  ⟨_, hB, h, zs_size m.c, fun j hj => ⟨(zs_at m.c j hj).1, by rw [(zs_at m.c j hj).2.1]; simp [Pm.cF, sumU], by rw [(zs_at m.c j hj).2.2]; simp [Pm.fF]⟩⟩
theorem SlAt.cell {m : Pm} {w : World} {B g j : Nat} {a : Int} {L : List Nat} (h : SlAt m w B g a L) (hj : j < m.c) : w.cell? ⟨g, j * 3 + 1, none⟩ = some (.int .u32 (m.cF a j L)) ∧ w.cell? ⟨g, j * 3 + 2, none⟩ = some (.int .u32 (m.fF a j L)) := by
  obtain ⟨cur, h1, h2, h3, h4⟩ := h
  exact ⟨by rw [h2.cell, (h4 j hj).2.1], by rw [h2.cell, (h4 j hj).2.2]⟩
theorem SlAt.free {m : Pm} {w : World} {B g : Nat} {a : Int} {L : List Nat} (h : SlAt m w B g a L) (j : Nat) : w.frozen? ⟨g, j, none⟩ = false := by
  obtain ⟨cur, h1, h2, h3, h4⟩ := h
  exact h2.free j
theorem SlAt.skip {m : Pm} {w : World} {B g t : Nat} {a : Int} {L : List Nat} (h : SlAt m w B g a L) (hm : ∀ j, j < m.c → m.hit a j t = false) : SlAt m w B g a (L ++ [t]) := by
  obtain ⟨cur, h1, h2, h3, h4⟩ := h
  refine ⟨cur, h1, h2, h3, fun j hj => ?_⟩
  rw [m.cF_miss (hm j hj), m.fF_miss (m.cap_miss (hm j hj))]
  exact h4 j hj
/-- a count is stored, no mark -/
theorem SlAt.count {m : Pm} {w : World} {B g j t : Nat} {a : Int} {L : List Nat} (h : SlAt m w B g a L) (hh : m.hit a j t = true) (hc : m.cap a j t = false) :
    SlAt m (w.setCell ⟨g, j * 3 + 1, none⟩ (.int .u32 (m.cF a j (L ++ [t])))) B g a (L ++ [t]) := by
  obtain ⟨cur, h1, h2, h3, h4⟩ := h
  refine ⟨_, h1, h2.set _ _, by simp [h3], fun i hi => ?_⟩
  obtain ⟨q1, q2, q3⟩ := h4 i hi
  by_cases e : i = j
  · subst e
    refine ⟨?_, ?_, ?_⟩
    · rw [Array.getElem?_setIfInBounds_ne (by omega)]; exact q1
    · exact Array.getElem?_setIfInBounds_self_of_lt (by omega)
    · rw [Array.getElem?_setIfInBounds_ne (by omega), m.fF_miss hc]; exact q3
  · have hm := m.hit_one (j' := i) (a' := a) hh (by omega)
    rw [m.cF_miss hm, m.fF_miss (m.cap_miss hm)]
    refine ⟨?_, ?_, ?_⟩
    · rw [Array.getElem?_setIfInBounds_ne (by omega)]; exact q1
    · rw [Array.getElem?_setIfInBounds_ne (by omega)]; exact q2
    · rw [Array.getElem?_setIfInBounds_ne (by omega)]; exact q3
/-- a count and the mark are stored -/
theorem SlAt.mark {m : Pm} {w : World} {B g j t : Nat} {a : Int} {L : List Nat} (h : SlAt m w B g a L) (hh : m.hit a j t = true) (hc : m.cap a j t = true) :
    SlAt m ((w.setCell ⟨g, j * 3 + 1, none⟩ (.int .u32 (m.cF a j (L ++ [t])))).setCell ⟨g, j * 3 + 2, none⟩ (.int .u32 1)) B g a (L ++ [t]) := by
  obtain ⟨cur, h1, h2, h3, h4⟩ := h
  refine ⟨_, h1, (h2.set _ _).set _ _, by simp [h3], fun i hi => ?_⟩
  obtain ⟨q1, q2, q3⟩ := h4 i hi
  by_cases e : i = j
  · subst e
    refine ⟨?_, ?_, ?_⟩
    · rw [Array.getElem?_setIfInBounds_ne (by omega), Array.getElem?_setIfInBounds_ne (by omega)]; exact q1
    · rw [Array.getElem?_setIfInBounds_ne (by omega)]
      exact Array.getElem?_setIfInBounds_self_of_lt (by omega)
    · rw [m.fF_cap hc]
      exact Array.getElem?_setIfInBounds_self_of_lt (by simp; omega)
  · have hm := m.hit_one (j' := i) (a' := a) hh (by omega)
    rw [m.cF_miss hm, m.fF_miss (m.cap_miss hm)]
    refine ⟨?_, ?_, ?_⟩
    · rw [Array.getElem?_setIfInBounds_ne (by omega), Array.getElem?_setIfInBounds_ne (by omega)]; exact q1
    · rw [Array.getElem?_setIfInBounds_ne (by omega), Array.getElem?_setIfInBounds_ne (by omega)]; exact q2
    · rw [Array.getElem?_setIfInBounds_ne (by omega), Array.getElem?_setIfInBounds_ne (by omega)]; exact q3
theorem SlAt.lt {m : Pm} {w : World} {B g : Nat} {a : Int} {L : List Nat} (h : SlAt m w B g a L) : g < w.heap.size := by
  obtain ⟨cur, h1, h2, _⟩ := h
  exact h2.lt
theorem blk_ne {w : World} {g g' : Nat} {t t' : TypeId} {cs cs' : Array Value} (h : Blk w g t cs) (h' : Blk w g' t' cs') (hne : t ≠ t') : g ≠ g' := by
  rintro rfl
  unfold Blk at h h'
  rw [h] at h'
  injection h' with h'
  injection h' with _ ht
  exact hne ht
theorem SlAt.ne {m : Pm} {w : World} {B g g' : Nat} {a : Int} {L : List Nat} {t' : TypeId} {cs' : Array Value} (h : SlAt m w B g a L) (h' : Blk w g' t' cs') (hne : t' ≠ 84) : g ≠ g' := by
  obtain ⟨cur, _, h2, _⟩ := h
  exact blk_ne h2 h' (Ne.symm hne)
theorem Sy.cell {w : World} {T S tl n : Nat} {ks : Array Value} {root rk : Nat → Nat} (h : Sy w T S tl n ks root rk) {j : Nat} (h2 : j % 10 ≠ 2) (h3 : j % 10 ≠ 3) : w.cell? ⟨S, j, none⟩ = ks[j]? := by
  obtain ⟨ts, cs, q1, q2, q3, q4, q5, q6, q7, q8⟩ := h.out
  rw [q5.cell, q7 _ h2 h3]
theorem not32 (m : Nat) (h : m < 4294967296) : 4294967295 ^^^ m = 4294967295 - m := by
  have h1 := BitVec.toNat_not (x := BitVec.ofNat 32 m)
  rw [← BitVec.xor_allOnes, BitVec.toNat_xor, BitVec.toNat_allOnes, BitVec.toNat_ofNat, Nat.mod_eq_of_lt h, Nat.xor_comm] at h1
  exact h1
theorem not_u32 (i : Int) (h0 : 0 ≤ i) (h1 : i < 4294967296) : bits BinOp.xor IntKind.u32 IntKind.u32.max i = 4294967295 - i := by
  rw [show IntKind.u32.max = ((4294967295 : Nat) : Int) from rfl]
  obtain ⟨m, rfl⟩ : ∃ m : Nat, i = (m : Int) := ⟨i.toNat, by omega⟩
  rw [u32_xor_nat _ _ (by omega) (by omega), not32 m (by omega)]
  omega
theorem valid_any (i : Int) (w : World) : Calls Tryd.prog 21 #[.agg #[.int .u32 i]] w fun e w' => e = .returned (.bool (!(i == 0))) ∧ w.grownBy w' none := by
  go_enter Tryd.func21, Tryd.ntmps21
  go_wp2
  go_ret
  exact ⟨rfl, gb_alloc (gb_refl _ _) _⟩
theorem geti_any (i : Int) (h0 : 0 ≤ i) (h1 : i < 4294967295) (w : World) : Calls Tryd.prog 22 #[.agg #[.int .u32 (4294967295 - i)]] w fun e w' => e = .returned (.int .u32 i) ∧ w.grownBy w' none := by
  have hx := not_u32 (4294967295 - i) (by omega) (by omega)
  rw [show 4294967295 - (4294967295 - i) = i by omega] at hx
  go_enter Tryd.func22, Tryd.ntmps22
  go_wp2
  go_ret
  exact ⟨rfl, gb_alloc (gb_refl _ _) _⟩
set_option maxRecDepth 100000 in
theorem mk_any (i : Int) (h0 : 0 ≤ i) (h1 : i < 4294967296) (w : World) : Calls Tryd.prog 17 #[.int .u32 i] w fun e w' => e = .returned (.agg #[.int .u32 (4294967295 - i)]) ∧ w.grownBy w' none := by
  have hx := not_u32 i h0 h1
  have hz : (zeroValue 61).run Tryd.prog w = .ok (.agg #[.int .u32 0]) w := by kernel_rfl
  have hb := Blk.new w 61 #[.int .u32 (4294967295 - i)]
  clear h0 h1
  go_enter Tryd.func17, Tryd.ntmps17
  go_wp2
  exact bodyPost_ret (v := .agg #[.int .u32 (4294967295 - i)]) (results_cell_row (d := _) Tryd.results17 _ _ w.heap.size 61 _ (0, 0) (by rfl) hb Tryd.underlying61 rfl (by kernel_rfl)) rfl ⟨rfl, gb_alloc (gb_refl _ _) _⟩
/-- SymbolFlags.Has -/
theorem has_any (f b : Int) (hf : f = 0 ∨ f = 1 ∨ f = 2 ∨ f = 3) (hb : b = 1 ∨ b = 2) (w : World) : Calls Tryd.prog 24 #[.int .u16 f, .int .u16 b] w fun e w' => e = .returned (.bool (f / b % 2 == 1)) ∧ w' = w := by
  rcases hf with rfl | rfl | rfl | rfl <;> rcases hb with rfl | rfl
  all_goals
    go_enter Tryd.func24, Tryd.ntmps24
    go_wp2
    go_ret
    exact ⟨ret_bool (by decide), rfl⟩
theorem gb_drewN (w : World) (d : Nat) : w.grownBy (w.drewN d) none := ⟨rfl, rfl, rfl, Nat.le_refl _, fun _ _ _ => rfl⟩
def keyV (t : Nat) : Value := .agg #[.int .u32 0, .int .u32 (t : Int)]
noncomputable def kr (t : Nat) : Lit := (keyOf Tryd.prog 30 (keyV t)).getD (.int .i64 0)
theorem laidOut1 : laidOutB Tryd.prog = true := by kernel_rfl
theorem row42 : (30 : TypeId) < Tryd.prog.types.size := of_decide_eq_true (by kernel_rfl)
theorem wide42 : (match Tryd.prog.underlying 30 with | some (.array _ _) | some (.struct _) => true | _ => false) = true := by rw [Tryd.underlying30]
theorem at42 : Tryd.prog.keyTypeAt 4 30 = true := by kernel_rfl
set_option maxRecDepth 100000 in
theorem law42 : WideMaps.KeyLaw Tryd.prog 30 := deep_law_laid laidOut1 (m := 4) (by omega) row42 at42 wide42
theorem keyed42 : Keyed Tryd.prog 30 := Keyed.of_law law42
theorem deep42 : Tryd.prog.keyTypeAt (Tryd.prog.types.size + 1) 30 = true := by kernel_rfl
theorem cells42 : Tryd.prog.cellsOf 30 = 2 := by kernel_rfl
theorem cells25 : Tryd.prog.cellsOf 24 = 1 := by kernel_rfl
theorem zero25 (w : World) : (zeroValue 24).run Tryd.prog w = .ok (.int .u32 0) w := by kernel_rfl
theorem u32_wf {x : Int} (h0 : 0 ≤ x) (h1 : x < 4294967296) : (Lit.int .u32 x).wf = true := by
  simp [Lit.wf, IntKind.min, IntKind.max, IntKind.bits, IntKind.signed]; omega
set_option maxRecDepth 100000 in
theorem key_trod (t : Nat) (ht : t < 4294967296) (w : World) : ∃ d, DataW.Trod (H := Unit) (fun _ => ()) Tryd.prog w 0 (fun _ => true) true 30 (keyV t) d [] := by
  have i0 : DataW.trod (H := Unit) (fun _ => ()) Tryd.prog w 0 (fun _ => true) true 2 24 [.int .u32 0] = some (.lit (.int .u32 0), []) := trod_int_mk 1 Tryd.underlying24 (by decide)
  have i1 : DataW.trod (H := Unit) (fun _ => ()) Tryd.prog w 0 (fun _ => true) true 2 24 [.int .u32 (t : Int)] = some (.lit (.int .u32 t), []) := trod_int_mk 1 Tryd.underlying24 (u32_wf (by omega) (by omega))
  have s42 := trod_struct_mk (enc := fun _ => ()) (w := w) (base := 0) (spare := fun _ => true) (held := true) (n := 2) (xs := [(.lit (.int .u32 0), []), (.lit (.int .u32 t), [])]) (cs := [.int .u32 0, .int .u32 (t : Int)]) Tryd.underlying30 (by rw [cells42]; rfl)
    (by simp [cells25, i0, i1])
  exact ⟨_, 3, by simpa [keyV, Value.cells] using s42⟩
set_option maxRecDepth 100000 in
theorem keyOf_key (t : Nat) (ht : t < 4294967296) : keyOf Tryd.prog 30 (keyV t) = some (kr t) := by
  obtain ⟨d, hd⟩ := key_trod t ht default
  have h := (keyOf_asKey deep42 wide42 (by simp [Value.formed, Tryd.underlying30, keyV, cells42]) hd).1
  unfold kr
  rw [h]; rfl
theorem kr_inj (s t : Nat) (hs : s < 4294967296) (ht : t < 4294967296) (e : kr s = kr t) : s = t := by
  have h1 := keyOf_key s hs
  rw [e] at h1
  have h2 := keyed42.inj h1 (keyOf_key t ht)
  have h3 : (s : Int) = (t : Int) := by simpa [keyV] using h2
  omega
theorem kr_lit (t : Nat) (ht : t < 4294967296) : WideAt.IsKeyLit (kr t) := keyed42.key (keyOf_key t ht)
end Go.Proofs.YtmpfgkiljfoicaaDoor
