/-
  The map of uses: what it holds; ranging over it. No statement of the seat is proved here.
-/
import Derived.Test.YtmpfgkiljfoicaaDoorAc
namespace Go.Proofs.YtmpfgkiljfoicaaDoor
open Go.Maps Go.ChangeShapes Go.WideShapes Go.RowKit
set_option linter.unusedVariables false
set_option linter.unusedSimpArgs false

open Classical in
/-- an element: a struct of one number -/
noncomputable def Ru (v : Value) : Option (DataW Unit × List MemPlace) := if h : ∃ c : Int, v = .agg #[.int .u32 c] then some (.lit (.int .u32 h.choose), []) else none
theorem Ru_mk (c : Int) : Ru (.agg #[.int .u32 c]) = some (.lit (.int .u32 c), []) := by
  have h : ∃ d : Int, (Value.agg #[.int .u32 c]) = .agg #[.int .u32 d] := ⟨c, rfl⟩
  unfold Ru
  rw [dif_pos h]
  have e := h.choose_spec
  have e2 : c = h.choose := by simpa using e
  rw [← e2]
theorem Ru_inv {v : Value} {y : DataW Unit × List MemPlace} (h : Ru v = some y) : ∃ c : Int, v = .agg #[.int .u32 c] ∧ y = (.lit (.int .u32 c), []) := by
  unfold Ru at h
  split at h
  · rename_i hx
    exact ⟨hx.choose, hx.choose_spec, (Option.some.inj h).symm⟩
  · cases h
abbrev Mu (w : World) (bm n : Nat) (D : DataW Unit) : Prop := w.ownsMap Tryd.prog 30 Ru bm n D
theorem Mu.fresh {w : World} {bm : Nat} (h : w.heap[bm]? = some (.map #[] 0)) : Mu w bm 0 (.map []) :=
  ⟨#[], 0, h, ⟨by simp, Go.MapKept.stamped_empty 0, by simp⟩, Nat.le_refl _, rfl⟩
theorem Mu.put {w : World} {bm n : Nat} {D : DataW Unit} {t : Nat} {c : Int} (hown : Mu w bm n D) (hn : n < maxLen) (ht : t < 4294967296) :
    ∃ w', (Instr.mapUpdate 26 (.map (some bm)) (.agg #[.int .u32 0, .int .u32 (t : Int)]) (.agg #[.int .u32 c])).run Tryd.prog w = .ok () w' ∧ Mu w' bm (n + 1) (D.put (kr t) (.lit (.int .u32 c))) ∧ w.grownBy w' (some bm) :=
  hown.update keyed42 Tryd.underlying26 hn (keyOf_key t ht) (Ru_mk c)
/-- the map holds the uses of the symbols below k -/
structure Uses (D : DataW Unit) (us : Nat → Int) (k : Nat) : Prop where
  map : IsMap D
  key : ∀ kl, Maps.has D kl = true → ∃ t, t < k ∧ kl = kr t
  has : ∀ t, t < 65536 → Maps.has D (kr t) = decide (t < k)
  at_ : ∀ t, t < k → ∀ zd, D.atKey (kr t) zd = .lit (.int .u32 (us t))
theorem Uses.nil (us : Nat → Int) : Uses (.map []) us 0 :=
  ⟨isMap_empty, fun kl h => by simp [Maps.has] at h, fun t _ => by simp [Maps.has], fun t h => by omega⟩
theorem Uses.put {D : DataW Unit} {us : Nat → Int} {k : Nat} (h : Uses D us k) (hk : k < 65536) : Uses (D.put (kr k) (.lit (.int .u32 (us k)))) us (k + 1) := by
  have kt := kr_lit k (by omega)
  refine ⟨h.map.put _ _, fun kl hh => ?_, fun s hs => ?_, fun s hs zd => ?_⟩
  · by_cases e : kl = kr k
    · exact ⟨k, by omega, e⟩
    · rw [has_put_other e] at hh
      obtain ⟨t, h1, h2⟩ := h.key kl hh
      exact ⟨t, by omega, h2⟩
  · by_cases e : s = k
    · subst e
      rw [has_put_same h.map kt]
      simp
    · rw [has_put_other (fun e' => e (kr_inj _ _ (by omega) (by omega) e')), h.has s hs]
      have : s < k ↔ s < k + 1 := by omega
      simp [this]
  · by_cases e : s = k
    · subst e
      rw [atKey_put_same h.map kt]
    · rw [atKey_put_other (fun e' => e (kr_inj _ _ (by omega) (by omega) e'))]
      exact h.at_ s (by omega) zd

section
variable {P : Program} {ops : Array Oper} {rest : List Oper} {o : Oper} {a : Act} {Q : Exit → Act → World → Prop}
/-- the step of the range -/
theorem wpList_next_use (w : World) (hg : o.guard = none) (it : Operand) (hop : o.op = Op.next it false) (b r m k : Nat) (us : Nat → Int) (D : DataW Unit) (left : Lit → Bool) (cnt : Nat)
    (hU : Uses D us k) (hn : k ≤ 65536) (hit : a.eval it = .pointer (some ⟨r, 0, none⟩)) (h : w.ranges Tryd.prog 30 Ru b r m D left cnt) (hsub : ∀ kl, left kl = true → Maps.has D kl = true)
    (hDone : (∀ kl, left kl = false) → wpList Tryd.prog ops Q rest (a.put o.dst (.tuple #[.bool false])) w)
    (hMore : ∀ (t : Nat) (w' : World) (cnt' : Nat), t < k → left (kr t) = true → w'.ranges Tryd.prog 30 Ru b r m D (fun z => left z && !z.sameKey (kr t)) cnt' → cnt' < cnt →
      w.grownBy w' (some r) → (Instr.entry (.pointer (some ⟨r, 0, none⟩))).run Tryd.prog w' = .ok (.tuple #[.agg #[.int .u32 0, .int .u32 (t : Int)], .agg #[.int .u32 (us t)]]) w' →
      wpList Tryd.prog ops Q rest (a.put o.dst (.tuple #[.bool true, .agg #[.int .u32 0, .int .u32 (t : Int)], .agg #[.int .u32 (us t)]])) w') :
    wpList Tryd.prog ops Q (o :: rest) a w := by
  refine wpList_plain hg fun K' hK' => ?_
  unfold Oper.wp
  rcases h.next keyed42 o.type with ⟨h0, hl, hrun⟩ | ⟨key, v, kl, y, w', cnt', hkey, hlk, hv, hat, hrun, hrg, hlt, hgr, hsz, hen⟩
  · simp [execOp, hop, hit, hrun, Result.andThen]
    exact hK' _ _ (hDone hl)
  · have hh := hsub kl hlk
    obtain ⟨t, ht, rfl⟩ := hU.key kl hh
    obtain ⟨c, rfl, rfl⟩ := Ru_inv hv
    have hc := (hat (.lit (.int .u32 0))).symm.trans (hU.at_ t ht _)
    have hc' : c = us t := by simpa using hc
    subst hc'
    have hk2 : key = keyV t := keyed42.inj hkey (keyOf_key t (by omega))
    subst hk2
    simp [execOp, hop, hit, hrun, Result.andThen]
    exact hK' _ _ (hMore t w' cnt' ht hlk hrg hlt hgr hen)
end
/-- the range goes on while blocks that are neither the map nor the loop turn -/
theorem Kp.ranges {w w' : World} {L : Nat → Prop} (hk : Kp w w' L) {b r m : Nat} {D : DataW Unit} {left : Lit → Bool} {cnt : Nat} (h : w.ranges Tryd.prog 30 Ru b r m D left cnt) (hb' : ¬ L b) (hr' : ¬ L r) : w'.ranges Tryd.prog 30 Ru b r m D left cnt := by
  have h1 := h.owns.lt
  have h2 := h.lt
  obtain ⟨es, clock, since, seen, c0, hb, F, hs, hD, hr, rest⟩ := h
  exact ⟨es, clock, since, seen, c0, (hk.block b h1 hb').trans hb, F, hs, hD, (hk.block r h2 hr').trans hr, rest⟩
theorem ranges_cells {w : World} {b r m : Nat} {D : DataW Unit} {left : Lit → Bool} {cnt : Nat} (h : w.ranges Tryd.prog 30 Ru b r m D left cnt) {g : Nat} {t : TypeId} {cs : Array Value} (hg : Blk w g t cs) : b ≠ g ∧ r ≠ g := by
  obtain ⟨es, clock, since, seen, c0, hb, F, hs, hD, hr, rest⟩ := h
  unfold Blk at hg
  constructor <;> (rintro rfl)
  · rw [hg] at hb; cases hb
  · rw [hg] at hr; cases hr
/-- the symbols that the range has met -/
structure Ls (L : List Nat) (k : Nat) (left : Lit → Bool) : Prop where
  nodup : L.Nodup
  mem : ∀ t, t ∈ L ↔ t < k ∧ left (kr t) = false
theorem Ls.nil {k : Nat} {left : Lit → Bool} (h : ∀ t, t < k → left (kr t) = true) : Ls [] k left :=
  ⟨List.nodup_nil, fun t => by simp; intro h1; exact h t h1⟩
set_option maxRecDepth 100000 in
theorem Ls.step {L : List Nat} {k : Nat} {left : Lit → Bool} (h : Ls L k left) (hn : k ≤ 65536) {t : Nat} (ht : t < k) (hl : left (kr t) = true) : Ls (L ++ [t]) k (fun z => left z && !z.sameKey (kr t)) := by
  have hlt : ∀ s, s < k → ((left (kr s) && !(kr s).sameKey (kr t)) = false ↔ left (kr s) = false ∨ s = t) := fun s hs => by
    by_cases e : s = t
    · subst e
      simp [WideAt.sameKey_self (kr_lit s (by omega))]
    · have : (kr s).sameKey (kr t) = false := by
        cases hk : (kr s).sameKey (kr t)
        · rfl
        · exact absurd (kr_inj _ _ (by omega) (by omega) (WideAt.sameKey_eq hk)) e
      rw [this]
      simp [e]
  have hnt : t ∉ L := fun h' => by
    have := ((h.mem t).1 h').2
    rw [hl] at this; cases this
  refine ⟨List.nodup_append.2 ⟨h.nodup, by simp, fun a ha b hb e => ?_⟩, fun s => ?_⟩
  · simp at hb; subst hb; subst e; exact hnt ha
  · rw [List.mem_append]
    constructor
    · rintro (hs | hs)
      · obtain ⟨q1, q2⟩ := (h.mem s).1 hs
        exact ⟨q1, (hlt s q1).2 (.inl q2)⟩
      · simp at hs; subst hs
        exact ⟨ht, (hlt s ht).2 (.inr rfl)⟩
    · rintro ⟨q1, q2⟩
      rcases (hlt s q1).1 q2 with q | q
      · exact .inl ((h.mem s).2 ⟨q1, q⟩)
      · exact .inr (by simp [q])
theorem Ls.perm {L : List Nat} {k : Nat} {left : Lit → Bool} (h : Ls L k left) (hl : ∀ t, t < k → left (kr t) = false) : L.Perm (List.range k) := by
  rw [List.perm_ext_iff_of_nodup h.nodup List.nodup_range]
  intro t
  rw [h.mem t, List.mem_range]
  exact ⟨fun q => q.1, fun q => ⟨q, hl t q⟩⟩
theorem nodup_len : ∀ (k : Nat) (L : List Nat), L.Nodup → (∀ t, t ∈ L → t < k) → L.length ≤ k
  | 0, L, _, h => by
    cases L with
    | nil => simp
    | cons a L => exact absurd (h a (by simp)) (by omega)
  | k + 1, L, hd, h => by
    have h1 := nodup_len k (L.erase k) (hd.erase k) (fun t ht => by
      rw [hd.mem_erase_iff] at ht
      have := h t ht.2
      omega)
    have h2 : L.length ≤ (L.erase k).length + 1 := by rw [List.length_erase]; split <;> omega
    omega
theorem Ls.len {L : List Nat} {k : Nat} {left : Lit → Bool} (h : Ls L k left) : L.length ≤ k := nodup_len k L h.nodup (fun t ht => ((h.mem t).1 ht).1)
end Go.Proofs.YtmpfgkiljfoicaaDoor
