/-
  The printer's map of names: its key, what it knows. No statement of the seat is proved here.
-/
import Derived.Test.YtmfhoeihdikklaaFmtZa
import Derived.Test.YtmfhoeihdikklaaFmtFs
import Derived.Deep.Slices
import Derived.KernelRfl
import Derived.WideMake
import Derived.DeepKeys4
import Derived.MapViews
import Derived.ChangeSame
import Derived.Maps.OwnSet
import Derived.Maps.StringElems
namespace Go.Proofs.YtmfhoeihdikklaaFmt
open Go.Maps Go.ChangeShapes Go.WideShapes Go.RowKit
set_option linter.unusedVariables false
set_option linter.unusedSimpArgs false

def keyV (t : Nat) : Value := .agg #[.int .u32 0, .int .u32 (t : Int)]
noncomputable def kr (t : Nat) : Lit := (keyOf Tryf.prog 47 (keyV t)).getD (.int .i64 0)
theorem laidOut1 : laidOutB Tryf.prog = true := by kernel_rfl
theorem row42 : (47 : TypeId) < Tryf.prog.types.size := of_decide_eq_true (by kernel_rfl)
theorem wide42 : (match Tryf.prog.underlying 47 with | some (.array _ _) | some (.struct _) => true | _ => false) = true := by rw [Tryf.underlying47]
theorem at42 : Tryf.prog.keyTypeAt 4 47 = true := by kernel_rfl
set_option maxRecDepth 100000 in
theorem law42 : WideMaps.KeyLaw Tryf.prog 47 := deep_law_laid laidOut1 (m := 4) (by omega) row42 at42 wide42
theorem keyed42 : Keyed Tryf.prog 47 := Keyed.of_law law42
theorem deep42 : Tryf.prog.keyTypeAt (Tryf.prog.types.size + 1) 47 = true := by kernel_rfl
theorem cells42 : Tryf.prog.cellsOf 47 = 2 := by kernel_rfl
theorem cells25 : Tryf.prog.cellsOf 25 = 1 := by kernel_rfl
theorem zero25 (w : World) : (zeroValue 25).run Tryf.prog w = .ok (.int .u32 0) w := by kernel_rfl
theorem u32_wf {x : Int} (h0 : 0 ≤ x) (h1 : x < 4294967296) : (Lit.int .u32 x).wf = true := by
  simp [Lit.wf, IntKind.min, IntKind.max, IntKind.bits, IntKind.signed]; omega
set_option maxRecDepth 100000 in
theorem key_trod (t : Nat) (ht : t < 4294967296) (w : World) : ∃ d, DataW.Trod (H := Unit) (fun _ => ()) Tryf.prog w 0 (fun _ => true) true 47 (keyV t) d [] := by
  have i0 : DataW.trod (H := Unit) (fun _ => ()) Tryf.prog w 0 (fun _ => true) true 2 25 [.int .u32 0] = some (.lit (.int .u32 0), []) := trod_int_mk 1 Tryf.underlying25 (by decide)
  have i1 : DataW.trod (H := Unit) (fun _ => ()) Tryf.prog w 0 (fun _ => true) true 2 25 [.int .u32 (t : Int)] = some (.lit (.int .u32 t), []) := trod_int_mk 1 Tryf.underlying25 (u32_wf (by omega) (by omega))
  have s42 := trod_struct_mk (enc := fun _ => ()) (w := w) (base := 0) (spare := fun _ => true) (held := true) (n := 2) (xs := [(.lit (.int .u32 0), []), (.lit (.int .u32 t), [])]) (cs := [.int .u32 0, .int .u32 (t : Int)]) Tryf.underlying47 (by rw [cells42]; rfl)
    (by simp [cells25, i0, i1])
  exact ⟨_, 3, by simpa [keyV, Value.cells] using s42⟩
set_option maxRecDepth 100000 in
theorem keyOf_key (t : Nat) (ht : t < 4294967296) : keyOf Tryf.prog 47 (keyV t) = some (kr t) := by
  obtain ⟨d, hd⟩ := key_trod t ht default
  have h := (keyOf_asKey deep42 wide42 (by simp [Value.formed, Tryf.underlying47, keyV, cells42]) hd).1
  unfold kr
  rw [h]; rfl
set_option maxRecDepth 100000 in
theorem kr_inj (s t : Nat) (hs : s < 4294967296) (ht : t < 4294967296) (e : kr s = kr t) : s = t := by
  have h1 := keyOf_key s hs
  rw [e] at h1
  have h2 := keyed42.inj h1 (keyOf_key t ht)
  have h3 : (s : Int) = (t : Int) := by simpa [keyV] using h2
  omega
set_option maxRecDepth 100000 in
theorem kr_lit (t : Nat) (ht : t < 4294967296) : WideAt.IsKeyLit (kr t) := keyed42.key (keyOf_key t ht)

abbrev Mp (w : World) (bm n : Nat) (D : DataW Unit) : Prop := w.ownsMap Tryf.prog 47 (plainElem Tryf.prog 9) bm n D
theorem Mp.fresh {w : World} {bm : Nat} (h : w.heap[bm]? = some (.map #[] 0)) : Mp w bm 0 (.map []) :=
  ⟨#[], 0, h, ⟨by simp, Go.MapKept.stamped_empty 0, by simp⟩, Nat.le_refl _, rfl⟩
theorem zero9 (w : World) : (zeroValue 9).run Tryf.prog w = .ok (.string ByteArray.empty) w := by kernel_rfl
/-- what the map knows behind the first i keys -/
structure Lm (D : DataW Unit) (ks : List Int) (vs : List ByteArray) (i : Nat) : Prop where
  map : IsMap D
  has : ∀ t, t < 4294967296 → Maps.has D (kr t) = (lastJ ks t i).isSome
  at_ : ∀ t, t < 4294967296 → ∀ j, lastJ ks t i = some j → ∀ zd, D.atKey (kr t) zd = .lit (.string (tth vs j).data.toList)
theorem Lm.nil (ks : List Int) (vs : List ByteArray) : Lm (.map []) ks vs 0 :=
  ⟨isMap_empty, fun t _ => by simp [Maps.has, lastJ], fun t _ j h => by cases h⟩
set_option maxRecDepth 100000 in
theorem Lm.put {D : DataW Unit} {ks : List Int} {vs : List ByteArray} {i t : Nat} (h : Lm D ks vs i) (ht : t < 4294967296) (hk : nth ks i = (t : Int)) : Lm (D.put (kr t) (.lit (.string (tth vs i).data.toList))) ks vs (i + 1) := by
  have kt := kr_lit t ht
  have e1 : lastJ ks t (i + 1) = some i := by unfold lastJ; rw [if_pos hk]
  have e2 : ∀ s, s ≠ t → lastJ ks s (i + 1) = lastJ ks s i := fun s hs => by
    show (if nth ks i = (s : Int) then some i else lastJ ks s i) = _
    rw [if_neg (by omega)]
  refine ⟨h.map.put _ _, fun s hs => ?_, fun s hs j hj zd => ?_⟩
  · by_cases e : s = t
    · subst e
      rw [has_put_same h.map kt, e1]
      rfl
    · rw [has_put_other (fun e' => e (kr_inj _ _ hs ht e')), h.has s hs, e2 s e]
  · by_cases e : s = t
    · subst e
      rw [e1] at hj
      cases hj
      rw [atKey_put_same h.map kt]
    · rw [e2 s e] at hj
      rw [atKey_put_other (fun e' => e (kr_inj _ _ hs ht e'))]
      exact h.at_ s hs j hj zd
set_option maxRecDepth 100000 in
theorem look_at {w : World} {bm n : Nat} {D : DataW Unit} {ks : List Int} {vs : List ByteArray} {i t : Nat} (hown : Mp w bm n D) (hL : Lm D ks vs i) (ht : t < 4294967296) : ∃ s : ByteArray, (∀ j, lastJ ks t i = some j → s = tth vs j) ∧
    (Instr.lookup 56 (.map (some bm)) (.agg #[.int .u32 0, .int .u32 (t : Int)]) true).run Tryf.prog w = .ok (.tuple #[.string s, .bool (lastJ ks t i).isSome]) w := by
  obtain ⟨v, ps, hrun, hv⟩ := hown.look_ok keyed42 Tryf.underlying56 (zero9 _) (plainElem_string Tryf.underlying9 (by decide)) (keyOf_key t ht)
  obtain ⟨s, rfl, hc⟩ := plainElem_string_inv Tryf.underlying9 hv
  simp only [Prod.mk.injEq] at hc
  refine ⟨s, fun j hj => ?_, by rw [← hL.has t ht]; exact hrun⟩
  have h2 := hL.at_ t ht j hj (.lit (.string (ByteArray.empty).data.toList))
  have h3 := hc.1.1
  rw [h2] at h3
  have h4 : (tth vs j).data.toList = s.data.toList := by simpa using h3
  have h5 : (tth vs j).data = s.data := by rw [← Array.toList_inj]; exact h4
  cases hs : s with | mk a => cases hv2 : tth vs j with | mk b => rw [hs, hv2] at h5; simp at h5; rw [h5]
theorem put_at {w : World} {bm n : Nat} {D : DataW Unit} {t : Nat} {s : ByteArray} (hown : Mp w bm n D) (hn : n < maxLen) (ht : t < 4294967296) (hs : s.size ≤ maxLen) :
    ∃ w', (Instr.mapUpdate 56 (.map (some bm)) (.agg #[.int .u32 0, .int .u32 (t : Int)]) (.string s)).run Tryf.prog w = .ok () w' ∧ Mp w' bm (n + 1) (D.put (kr t) (.lit (.string s.data.toList))) ∧ w.grownBy w' (some bm) :=
  hown.update keyed42 Tryf.underlying56 hn (keyOf_key t ht) (plainElem_string Tryf.underlying9 hs)
end Go.Proofs.YtmfhoeihdikklaaFmt
