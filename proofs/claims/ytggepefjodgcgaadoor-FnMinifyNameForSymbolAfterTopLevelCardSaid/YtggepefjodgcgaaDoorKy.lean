/-
  The key of the renamer's map: a reference to a symbol; what the map knows. No statement of the seat is proved here.
-/
import Derived.Test.YtggepefjodgcgaaDoorNew
import Derived.Deep.Slices
import Derived.KernelRfl
namespace Go.Proofs.YtggepefjodgcgaaDoor
open Go.Maps Go.ChangeShapes Go.WideShapes Go.RowKit
set_option linter.unusedVariables false

def keyV (t : Nat) : Value := .agg #[.int .u32 0, .int .u32 (t : Int)]
noncomputable def kr (t : Nat) : Lit := (keyOf Tryd.prog 42 (keyV t)).getD (.int .i64 0)
theorem laidOut1 : laidOutB Tryd.prog = true := by kernel_rfl
theorem row42 : (42 : TypeId) < Tryd.prog.types.size := of_decide_eq_true (by kernel_rfl)
theorem wide42 : (match Tryd.prog.underlying 42 with | some (.array _ _) | some (.struct _) => true | _ => false) = true := by rw [Tryd.underlying42]
theorem at42 : Tryd.prog.keyTypeAt 4 42 = true := by kernel_rfl
set_option maxRecDepth 100000 in
theorem law42 : WideMaps.KeyLaw Tryd.prog 42 := deep_law_laid laidOut1 (m := 4) (by omega) row42 at42 wide42
theorem keyed42 : Keyed Tryd.prog 42 := Keyed.of_law law42
theorem deep42 : Tryd.prog.keyTypeAt (Tryd.prog.types.size + 1) 42 = true := by kernel_rfl
theorem cells42 : Tryd.prog.cellsOf 42 = 2 := by kernel_rfl
theorem cells25 : Tryd.prog.cellsOf 25 = 1 := by kernel_rfl
theorem zero25 (w : World) : (zeroValue 25).run Tryd.prog w = .ok (.int .u32 0) w := by kernel_rfl
theorem u32_wf {x : Int} (h0 : 0 ≤ x) (h1 : x < 4294967296) : (Lit.int .u32 x).wf = true := by
  simp [Lit.wf, IntKind.min, IntKind.max, IntKind.bits, IntKind.signed]; omega
set_option maxRecDepth 100000 in
theorem key_trod (t : Nat) (ht : t < 4294967296) (w : World) : ∃ d, DataW.Trod (H := Unit) (fun _ => ()) Tryd.prog w 0 (fun _ => true) true 42 (keyV t) d [] := by
  have i0 : DataW.trod (H := Unit) (fun _ => ()) Tryd.prog w 0 (fun _ => true) true 2 25 [.int .u32 0] = some (.lit (.int .u32 0), []) := trod_int_mk 1 Tryd.underlying25 (by decide)
  have i1 : DataW.trod (H := Unit) (fun _ => ()) Tryd.prog w 0 (fun _ => true) true 2 25 [.int .u32 (t : Int)] = some (.lit (.int .u32 t), []) := trod_int_mk 1 Tryd.underlying25 (u32_wf (by omega) (by omega))
  have s42 := trod_struct_mk (enc := fun _ => ()) (w := w) (base := 0) (spare := fun _ => true) (held := true) (n := 2) (xs := [(.lit (.int .u32 0), []), (.lit (.int .u32 t), [])]) (cs := [.int .u32 0, .int .u32 (t : Int)]) Tryd.underlying42 (by rw [cells42]; rfl)
    (by simp [cells25, i0, i1])
  exact ⟨_, 3, by simpa [keyV, Value.cells] using s42⟩
set_option maxRecDepth 100000 in
theorem keyOf_key (t : Nat) (ht : t < 4294967296) : keyOf Tryd.prog 42 (keyV t) = some (kr t) := by
  obtain ⟨d, hd⟩ := key_trod t ht default
  have h := (keyOf_asKey deep42 wide42 (by simp [Value.formed, Tryd.underlying42, keyV, cells42]) hd).1
  unfold kr
  rw [h]; rfl
theorem kr_inj (s t : Nat) (hs : s < 4294967296) (ht : t < 4294967296) (e : kr s = kr t) : s = t := by
  have h1 := keyOf_key s hs
  rw [e] at h1
  have h2 := keyed42.inj h1 (keyOf_key t ht)
  have h3 : (s : Int) = (t : Int) := by simpa [keyV] using h2
  omega
theorem kr_lit (t : Nat) (ht : t < 4294967296) : WideAt.IsKeyLit (kr t) := keyed42.key (keyOf_key t ht)
abbrev Mp (w : World) (bm n : Nat) (D : DataW Unit) : Prop := w.ownsMap Tryd.prog 42 (plainElem Tryd.prog 25) bm n D
theorem Mp.fresh {w : World} {bm : Nat} (h : w.heap[bm]? = some (.map #[] 0)) : Mp w bm 0 (.map []) :=
  ⟨#[], 0, h, ⟨by simp, Go.MapKept.stamped_empty 0, by simp⟩, Nat.le_refl _, rfl⟩

/-- what the map knows: the references p 0, .., p (k - 1) (numbers below n) are there, each with an index below 'top' of its namespace -/
structure Know (D : DataW Unit) (ps : List Int) (k n : Nat) (top : Nat → Nat) : Prop where
  map : IsMap D
  has : ∀ t, t < n → (Maps.has D (kr t) = true ↔ ∃ j, j < k ∧ nth ps j = (t : Int))
  at_ : ∀ t, t < n → Maps.has D (kr t) = true → ∃ i : Nat, D.atKey (kr t) (.lit (.int .u32 0)) = .lit (.int .u32 (i : Int)) ∧ i < top t
theorem Know.nil (ps : List Int) (n : Nat) (top : Nat → Nat) : Know (.map []) ps 0 n top :=
  ⟨isMap_empty, fun t _ => by simp [Maps.has], fun t _ h => by simp [Maps.has] at h⟩
theorem Know.again {D : DataW Unit} {ps : List Int} {k n : Nat} {top : Nat → Nat} (h : Know D ps k n top) {t : Nat} (ht : t < n) (hp : nth ps k = (t : Int)) (hh : Maps.has D (kr t) = true) : Know D ps (k + 1) n top := by
  refine ⟨h.map, fun s hs => ?_, h.at_⟩
  constructor
  · intro hx
    obtain ⟨j, h1, h2⟩ := (h.has s hs).1 hx
    exact ⟨j, by omega, h2⟩
  · rintro ⟨j, h1, h2⟩
    by_cases e : j = k
    · subst e
      have : s = t := by omega
      subst this
      exact hh
    · exact (h.has s hs).2 ⟨j, by omega, h2⟩
theorem Know.put {D : DataW Unit} {ps : List Int} {k n : Nat} {top top' : Nat → Nat} (h : Know D ps k n top) (hn : n ≤ 65536) {t i : Nat} (ht : t < n) (hp : nth ps k = (t : Int)) (hi : i < top' t) (htop : ∀ s, top s ≤ top' s) :
    Know (D.put (kr t) (.lit (.int .u32 (i : Int)))) ps (k + 1) n top' := by
  have kt := kr_lit t (by omega)
  refine ⟨h.map.put _ _, fun s hs => ?_, fun s hs hx => ?_⟩
  · by_cases e : s = t
    · subst e
      rw [has_put_same h.map kt]
      exact ⟨fun _ => ⟨k, by omega, hp⟩, fun _ => rfl⟩
    · rw [has_put_other (fun e' => e (kr_inj _ _ (by omega) (by omega) e'))]
      constructor
      · intro hx
        obtain ⟨j, h1, h2⟩ := (h.has s hs).1 hx
        exact ⟨j, by omega, h2⟩
      · rintro ⟨j, h1, h2⟩
        by_cases e2 : j = k
        · subst e2; omega
        · exact (h.has s hs).2 ⟨j, by omega, h2⟩
  · by_cases e : s = t
    · subst e
      exact ⟨i, by rw [atKey_put_same h.map kt], hi⟩
    · rw [has_put_other (fun e' => e (kr_inj _ _ (by omega) (by omega) e'))] at hx
      rw [atKey_put_other (fun e' => e (kr_inj _ _ (by omega) (by omega) e'))]
      obtain ⟨x, h1, h2⟩ := h.at_ s hs hx
      exact ⟨x, h1, Nat.lt_of_lt_of_le h2 (htop s)⟩
theorem look_at {w : World} {bm n : Nat} {D : DataW Unit} {t : Nat} (hown : Mp w bm n D) (ht : t < 4294967296) : ∃ cc, D.atKey (kr t) (.lit (.int .u32 0)) = .lit (.int .u32 cc) ∧
    (Instr.lookup 70 (.map (some bm)) (.agg #[.int .u32 0, .int .u32 (t : Int)]) true).run Tryd.prog w = .ok (.tuple #[.int .u32 cc, .bool (Maps.has D (kr t))]) w := by
  obtain ⟨v, ps, hrun, hv⟩ := hown.look_ok keyed42 Tryd.underlying70 (zero25 _) (plainElem_int Tryd.underlying25 (by decide)) (keyOf_key t ht)
  obtain ⟨cc, rfl, hc, _⟩ := plainElem_int_inv Tryd.underlying25 hv
  simp only [Prod.mk.injEq] at hc
  exact ⟨cc, hc.1, hrun⟩
theorem put_at {w : World} {bm n : Nat} {D : DataW Unit} {t i : Nat} (hown : Mp w bm n D) (hn : n < maxLen) (ht : t < 4294967296) (hi : i < 4294967296) :
    ∃ w', (Instr.mapUpdate 70 (.map (some bm)) (.agg #[.int .u32 0, .int .u32 (t : Int)]) (.int .u32 (i : Int))).run Tryd.prog w = .ok () w' ∧ Mp w' bm (n + 1) (D.put (kr t) (.lit (.int .u32 (i : Int)))) ∧ w.grownBy w' (some bm) :=
  hown.update keyed42 Tryd.underlying70 hn (keyOf_key t ht) (plainElem_int Tryd.underlying25 (u32_wf (by omega) (by omega)))
end Go.Proofs.YtggepefjodgcgaaDoor
