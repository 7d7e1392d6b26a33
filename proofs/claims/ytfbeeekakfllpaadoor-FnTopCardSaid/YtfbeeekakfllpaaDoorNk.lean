/-
  The builder's map from names to numbers. No statement of the seat is proved here.
-/
import Derived.Test.YtfbeeekakfllpaaDoorBase
import Derived.Test.YtfbeeekakfllpaaDoorRows
import Derived.Test.YtfbeeekakfllpaaDoorQv
import Derived.Maps.OwnSet
import Derived.KernelRfl
namespace Go.Proofs.YtfbeeekakfllpaaDoor
open Go.Maps Go.ChangeShapes Go.WideShapes Go.RowKit
set_option linter.unusedVariables false
def kl (s : ByteArray) : Lit := .string s.data.toList
theorem kl_inj {s t : ByteArray} (h : kl s = kl t) : s = t := by
  have h1 : s.data.toList = t.data.toList := by unfold kl at h; injection h
  have h2 : s.data = t.data := Array.ext' h1
  cases s; cases t; simp at h2; rw [h2]
theorem keyed9 : Keyed Tryd.prog 9 := string_keyed Tryd.underlying9
theorem keyOf_kl {s : ByteArray} (hs : s.size ≤ maxLen) : keyOf Tryd.prog 9 (.string s) = some (kl s) := Go.WideMaps.keyOf_string_mk Tryd.underlying9 hs
theorem kl_key {s : ByteArray} (hs : s.size ≤ maxLen) : WideAt.IsKeyLit (kl s) := keyed9.key (keyOf_kl hs)
theorem zero24 (w : World) : (zeroValue 24).run Tryd.prog w = .ok (.int .u32 0) w := by kernel_rfl
theorem u32_wf {x : Int} (h0 : 0 ≤ x) (h1 : x < 4294967296) : (Lit.int .u32 x).wf = true := by
  simp [Lit.wf, IntKind.min, IntKind.max, IntKind.bits, IntKind.signed]; omega
abbrev Mp (w : World) (bm n : Nat) (D : DataW Unit) : Prop := w.ownsMap Tryd.prog 9 (plainElem Tryd.prog 24) bm n D
theorem Mp.fresh {w : World} {bm : Nat} (h : w.heap[bm]? = some (.map #[] 0)) : Mp w bm 0 (.map []) :=
  ⟨#[], 0, h, ⟨by simp, Go.MapKept.stamped_empty 0, by simp⟩, Nat.le_refl _, rfl⟩
theorem Mp.eq {w w' : World} {bm n : Nat} {D : DataW Unit} (h : Mp w bm n D) (hb : w'.heap[bm]? = w.heap[bm]?) : Mp w' bm n D := by
  obtain ⟨es, c, h1, h2⟩ := h
  exact ⟨es, c, hb.trans h1, h2⟩
theorem Mp.lt {w : World} {bm n : Nat} {D : DataW Unit} (h : Mp w bm n D) : bm < w.heap.size := by
  obtain ⟨es, c, h1, h2⟩ := h
  exact blk_lt h1
/-- what the map knows: the names ns, each with its place -/
structure Know (D : DataW Unit) (ns : List ByteArray) : Prop where
  map : IsMap D
  has : ∀ t : ByteArray, t.size ≤ maxLen → (Maps.has D (kl t) = true ↔ t ∈ ns)
  at_ : ∀ (r : Nat) (t : ByteArray), t.size ≤ maxLen → ns[r]? = some t → D.atKey (kl t) (.lit (.int .u32 0)) = .lit (.int .u32 (r : Int))
theorem Know.nil : Know (.map []) [] := ⟨isMap_empty, fun t _ => by simp [Maps.has], fun r t _ h => by simp at h⟩
theorem Know.snoc {D : DataW Unit} {ns : List ByteArray} (h : Know D ns) {t : ByteArray} (ht : t.size ≤ maxLen) (hno : ¬ t ∈ ns) :
    Know (D.put (kl t) (.lit (.int .u32 (ns.length : Int)))) (ns ++ [t]) := by
  refine ⟨h.map.put _ _, fun s hsz => ?_, fun r s hsz hr => ?_⟩
  · by_cases e : s = t
    · subst e
      rw [has_put_same h.map (kl_key hsz)]; simp
    · rw [has_put_other (fun e' => e (kl_inj e')), h.has s hsz]
      simp [e]
  · by_cases e : s = t
    · subst e
      rw [atKey_put_same h.map (kl_key hsz)]
      have : r = ns.length := by
        by_cases hr2 : r < ns.length
        · rw [List.getElem?_append_left hr2] at hr
          exact absurd (List.mem_of_getElem? hr) hno
        · rw [List.getElem?_append_right (by omega)] at hr
          have := (List.getElem?_eq_some_iff.1 hr).1
          simp at this; omega
      rw [this]
    · rw [atKey_put_other (fun e' => e (kl_inj e'))]
      refine h.at_ r s hsz ?_
      by_cases hr2 : r < ns.length
      · rwa [List.getElem?_append_left hr2] at hr
      · rw [List.getElem?_append_right (by omega)] at hr
        have h1 := (List.getElem?_eq_some_iff.1 hr).1
        simp at h1
        rw [show r - ns.length = 0 by omega] at hr
        simp at hr
        exact absurd hr.symm e
theorem look_old {w : World} {bm n : Nat} {D : DataW Unit} {ns : List ByteArray} {t : ByteArray} {k : Nat} (hown : Mp w bm n D) (hk : Know D ns) (ht : t.size ≤ maxLen) (h : ns[k]? = some t) :
    (Instr.lookup 56 (.map (some bm)) (.string t) true).run Tryd.prog w = .ok (.tuple #[.int .u32 k, .bool true]) w := by
  obtain ⟨v, ps, hrun, hv⟩ := hown.look_ok keyed9 Tryd.underlying56 (zero24 _) (plainElem_int Tryd.underlying24 (by decide)) (keyOf_kl ht)
  obtain ⟨cc, rfl, hc, _⟩ := plainElem_int_inv Tryd.underlying24 hv
  simp only [Prod.mk.injEq] at hc
  have h1 := hk.at_ k t ht h
  rw [h1] at hc
  have h2 : Maps.has D (kl t) = true := (hk.has t ht).2 (List.mem_of_getElem? h)
  rw [h2] at hrun
  have h3 : (k : Int) = cc := by simpa using hc.1
  rw [← h3] at hrun
  exact hrun
theorem look_new {w : World} {bm n : Nat} {D : DataW Unit} {ns : List ByteArray} {t : ByteArray} (hown : Mp w bm n D) (hk : Know D ns) (ht : t.size ≤ maxLen) (h : t ∉ ns) :
    ∃ x : Int, (Instr.lookup 56 (.map (some bm)) (.string t) true).run Tryd.prog w = .ok (.tuple #[.int .u32 x, .bool false]) w := by
  obtain ⟨v, ps, hrun, hv⟩ := hown.look_ok keyed9 Tryd.underlying56 (zero24 _) (plainElem_int Tryd.underlying24 (by decide)) (keyOf_kl ht)
  obtain ⟨cc, rfl, hc, _⟩ := plainElem_int_inv Tryd.underlying24 hv
  have h2 : Maps.has D (kl t) = false := by
    cases hh : Maps.has D (kl t) with
    | false => rfl
    | true => exact absurd ((hk.has t ht).1 hh) h
  rw [h2] at hrun
  exact ⟨cc, hrun⟩
theorem put_at {w : World} {bm n : Nat} {D : DataW Unit} {t : ByteArray} {i : Nat} (hown : Mp w bm n D) (hn : n < maxLen) (ht : t.size ≤ maxLen) (hi : i < 4294967296) :
    ∃ w', (Instr.mapUpdate 56 (.map (some bm)) (.string t) (.int .u32 (i : Int))).run Tryd.prog w = .ok () w' ∧ Mp w' bm (n + 1) (D.put (kl t) (.lit (.int .u32 (i : Int)))) ∧ w.grownBy w' (some bm) :=
  hown.update keyed9 Tryd.underlying56 hn (keyOf_kl ht) (plainElem_int Tryd.underlying24 (u32_wf (by omega) (by omega)))
end Go.Proofs.YtfbeeekakfllpaaDoor
