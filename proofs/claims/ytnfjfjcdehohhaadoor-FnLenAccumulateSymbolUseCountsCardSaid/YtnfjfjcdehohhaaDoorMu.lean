/-
  The map of uses: what it holds; ranging over it. No statement of the seat is proved here.
-/
import Derived.Test.YtnfjfjcdehohhaaDoorAc
namespace Go.Proofs.YtnfjfjcdehohhaaDoor
open Go.Maps Go.ChangeShapes Go.WideShapes Go.RowKit
set_option linter.unusedVariables false
set_option linter.unusedSimpArgs false

open Classical in
/-- an element: a struct of one number -/
noncomputable def Ru (v : Value) : Option (DataW Unit × List MemPlace) := if h : ∃ c : Int, v = .agg #[.int .u32 c] then some (.lit (.int .u32 h.choose), []) else none
theorem Ru_mk (c : Int) : Ru (.agg #[.int .u32 c]) = some (.lit (.int .u32 c), []) := by
  have h : ∃ d : Int, (Value.agg #[.int .u32 c]) = .agg #[.int .u32 d] := ⟨c, rfl⟩
  unfold Ru
  rw [dif_pos h]
  have e := h.choose_spec
  have e2 : c = h.choose := by simpa using e
  rw [← e2]
theorem Ru_inv {v : Value} {y : DataW Unit × List MemPlace} (h : Ru v = some y) : ∃ c : Int, v = .agg #[.int .u32 c] ∧ y = (.lit (.int .u32 c), []) := by
  unfold Ru at h
  split at h
  · rename_i hx
    exact ⟨hx.choose, hx.choose_spec, (Option.some.inj h).symm⟩
  · cases h
abbrev Mu (w : World) (bm n : Nat) (D : DataW Unit) : Prop := w.ownsMap Tryd.prog 42 Ru bm n D
theorem Mu.fresh {w : World} {bm : Nat} (h : w.heap[bm]? = some (.map #[] 0)) : Mu w bm 0 (.map []) :=
  ⟨#[], 0, h, ⟨by simp, Go.MapKept.stamped_empty 0, by simp⟩, Nat.le_refl _, rfl⟩
theorem Mu.put {w : World} {bm n : Nat} {D : DataW Unit} {t : Nat} {c : Int} (hown : Mu w bm n D) (hn : n < maxLen) (ht : t < 4294967296) :
    ∃ w', (Instr.mapUpdate 37 (.map (some bm)) (.agg #[.int .u32 0, .int .u32 (t : Int)]) (.agg #[.int .u32 c])).run Tryd.prog w = .ok () w' ∧ Mu w' bm (n + 1) (D.put (kr t) (.lit (.int .u32 c))) ∧ w.grownBy w' (some bm) :=
  hown.update keyed42 Tryd.underlying37 hn (keyOf_key t ht) (Ru_mk c)
/-- is t among the first k? -/
def inT (us : List Int) : Nat → Nat → Bool | 0, _ => false | k + 1, t => if nth us k = (t : Int) then true else inT us k t
/-- the last count of t among the first k -/
def lastT (us cs : List Int) : Nat → Nat → Int | 0, _ => 0 | k + 1, t => if nth us k = (t : Int) then nth cs k else lastT us cs k t
structure Uses (D : DataW Unit) (us cs : List Int) (k n : Nat) : Prop where
  map : IsMap D
  key : ∀ kl, Maps.has D kl = true → ∃ t, t < n ∧ kl = kr t
  has : ∀ t, t < n → Maps.has D (kr t) = inT us k t
  at_ : ∀ t, t < n → inT us k t = true → ∀ zd, D.atKey (kr t) zd = .lit (.int .u32 (lastT us cs k t))
theorem Uses.nil (us cs : List Int) (n : Nat) : Uses (.map []) us cs 0 n :=
  ⟨isMap_empty, fun kl h => by simp [Maps.has] at h, fun t _ => by simp [Maps.has, inT], fun t _ h => by simp [inT] at h⟩
theorem Uses.put {D : DataW Unit} {us cs : List Int} {k n t : Nat} (h : Uses D us cs k n) (hn : n ≤ 65536) (ht : t < n) (hu : nth us k = (t : Int)) : Uses (D.put (kr t) (.lit (.int .u32 (nth cs k)))) us cs (k + 1) n := by
  have kt := kr_lit t (by omega)
  refine ⟨h.map.put _ _, fun kl hk => ?_, fun s hs => ?_, fun s hs hx zd => ?_⟩
  · by_cases e : kl = kr t
    · exact ⟨t, ht, e⟩
    · rw [has_put_other e] at hk
      exact h.key kl hk
  · by_cases e : s = t
    · subst e
      rw [has_put_same h.map kt]
      simp [inT, hu]
    · rw [has_put_other (fun e' => e (kr_inj _ _ (by omega) (by omega) e')), h.has s hs]
      have : ¬ nth us k = (s : Int) := by omega
      simp [inT, this]
  · by_cases e : s = t
    · subst e
      rw [atKey_put_same h.map kt]
      simp [lastT, hu]
    · rw [atKey_put_other (fun e' => e (kr_inj _ _ (by omega) (by omega) e'))]
      have hne : ¬ nth us k = (s : Int) := by omega
      have hx' : inT us k s = true := by simpa [inT, hne] using hx
      rw [h.at_ s hs hx']
      simp [lastT, hne]

section
variable {P : Program} {ops : Array Oper} {rest : List Oper} {o : Oper} {a : Act} {Q : Exit → Act → World → Prop}
/-- the step of the range -/
theorem wpList_next_use (w : World) (hg : o.guard = none) (it : Operand) (hop : o.op = Op.next it false) (b r m n k : Nat) (us cs : List Int) (D : DataW Unit) (left : Lit → Bool) (cnt : Nat)
    (hU : Uses D us cs k n) (hn : n ≤ 65536) (hit : a.eval it = .pointer (some ⟨r, 0, none⟩)) (h : w.ranges Tryd.prog 42 Ru b r m D left cnt) (hsub : ∀ kl, left kl = true → Maps.has D kl = true)
    (hDone : (∀ kl, left kl = false) → wpList Tryd.prog ops Q rest (a.put o.dst (.tuple #[.bool false])) w)
    (hMore : ∀ (t : Nat) (w' : World) (cnt' : Nat), t < n → left (kr t) = true → inT us k t = true → w'.ranges Tryd.prog 42 Ru b r m D (fun z => left z && !z.sameKey (kr t)) cnt' → cnt' < cnt →
      w.grownBy w' (some r) → (Instr.entry (.pointer (some ⟨r, 0, none⟩))).run Tryd.prog w' = .ok (.tuple #[.agg #[.int .u32 0, .int .u32 (t : Int)], .agg #[.int .u32 (lastT us cs k t)]]) w' →
      wpList Tryd.prog ops Q rest (a.put o.dst (.tuple #[.bool true, .agg #[.int .u32 0, .int .u32 (t : Int)], .agg #[.int .u32 (lastT us cs k t)]])) w') :
    wpList Tryd.prog ops Q (o :: rest) a w := by
  refine wpList_plain hg fun K' hK' => ?_
  unfold Oper.wp
  rcases h.next keyed42 o.type with ⟨h0, hl, hrun⟩ | ⟨key, v, kl, y, w', cnt', hkey, hlk, hv, hat, hrun, hrg, hlt, hgr, hsz, hen⟩
  · simp [execOp, hop, hit, hrun, Result.andThen]
    exact hK' _ _ (hDone hl)
  · have hh := hsub kl hlk
    obtain ⟨t, ht, rfl⟩ := hU.key kl hh
    have hin : inT us k t = true := by rw [← hU.has t ht]; exact hh
    obtain ⟨c, rfl, rfl⟩ := Ru_inv hv
    have hc := (hat (.lit (.int .u32 0))).symm.trans (hU.at_ t ht hin _)
    have hc' : c = lastT us cs k t := by simpa using hc
    subst hc'
    have hk2 : key = keyV t := keyed42.inj hkey (keyOf_key t (by omega))
    subst hk2
    simp [execOp, hop, hit, hrun, Result.andThen]
    exact hK' _ _ (hMore t w' cnt' ht hlk hin hrg hlt hgr hen)
end
/-- the range goes on while blocks that are neither the map nor the loop turn -/
theorem Kp.ranges {w w' : World} {L : Nat → Prop} (hk : Kp w w' L) {b r m : Nat} {D : DataW Unit} {left : Lit → Bool} {cnt : Nat} (h : w.ranges Tryd.prog 42 Ru b r m D left cnt) (hb' : ¬ L b) (hr' : ¬ L r) : w'.ranges Tryd.prog 42 Ru b r m D left cnt := by
  have h1 := h.owns.lt
  have h2 := h.lt
  obtain ⟨es, clock, since, seen, c0, hb, F, hs, hD, hr, rest⟩ := h
  exact ⟨es, clock, since, seen, c0, (hk.block b h1 hb').trans hb, F, hs, hD, (hk.block r h2 hr').trans hr, rest⟩
theorem ranges_cells {w : World} {b r m : Nat} {D : DataW Unit} {left : Lit → Bool} {cnt : Nat} (h : w.ranges Tryd.prog 42 Ru b r m D left cnt) {g : Nat} {t : TypeId} {cs : Array Value} (hg : Blk w g t cs) : b ≠ g ∧ r ≠ g := by
  obtain ⟨es, clock, since, seen, c0, hb, F, hs, hD, hr, rest⟩ := h
  unfold Blk at hg
  constructor <;> (rintro rfl)
  · rw [hg] at hb; cases hb
  · rw [hg] at hr; cases hr
/-- what has been listed -/
structure Es (es : List Nat) (us ks ns : List Int) (m n : Nat) (left : Lit → Bool) : Prop where
  nodup : es.Nodup
  mem : ∀ t, t ∈ es ↔ t < n ∧ inT us m t = true ∧ lst ks ns t = true ∧ left (kr t) = false
theorem Es.nil {us ks ns : List Int} {m n : Nat} {left : Lit → Bool} (h : ∀ t, t < n → inT us m t = true → left (kr t) = true) : Es [] us ks ns m n left :=
  ⟨List.nodup_nil, fun t => by simp; intro h1 h2 _; exact h t h1 h2⟩
theorem Es.step {es : List Nat} {us ks ns : List Int} {m n : Nat} {left : Lit → Bool} (h : Es es us ks ns m n left) (hn : n ≤ 65536) {t : Nat} (ht : t < n) (hl : left (kr t) = true) (hin : inT us m t = true) :
    Es (if lst ks ns t = true then es ++ [t] else es) us ks ns m n (fun z => left z && !z.sameKey (kr t)) := by
  have hlt : ∀ s, s < n → ((left (kr s) && !(kr s).sameKey (kr t)) = false ↔ left (kr s) = false ∨ s = t) := fun s hs => by
    by_cases e : s = t
    · subst e
      simp [WideAt.sameKey_self (kr_lit s (by omega))]
    · have : (kr s).sameKey (kr t) = false := by
        cases hk : (kr s).sameKey (kr t)
        · rfl
        · exact absurd (kr_inj _ _ (by omega) (by omega) (WideAt.sameKey_eq hk)) e
      rw [this]
      simp [e]
  have hnt : t ∉ es := fun h' => by
    have := ((h.mem t).1 h').2.2.2
    rw [hl] at this; cases this
  by_cases hls : lst ks ns t = true
  · rw [if_pos hls]
    refine ⟨List.nodup_append.2 ⟨h.nodup, by simp, fun a ha b hb e => ?_⟩, fun s => ?_⟩
    · simp at hb; subst hb; subst e; exact hnt ha
    · rw [List.mem_append]
      constructor
      · rintro (hs | hs)
        · obtain ⟨q1, q2, q3, q4⟩ := (h.mem s).1 hs
          exact ⟨q1, q2, q3, (hlt s q1).2 (.inl q4)⟩
        · simp at hs; subst hs
          exact ⟨ht, hin, hls, (hlt s ht).2 (.inr rfl)⟩
      · rintro ⟨q1, q2, q3, q4⟩
        rcases (hlt s q1).1 q4 with q | q
        · exact .inl ((h.mem s).2 ⟨q1, q2, q3, q⟩)
        · exact .inr (by simp [q])
  · rw [if_neg hls]
    refine ⟨h.nodup, fun s => ?_⟩
    constructor
    · intro hs
      obtain ⟨q1, q2, q3, q4⟩ := (h.mem s).1 hs
      exact ⟨q1, q2, q3, (hlt s q1).2 (.inl q4)⟩
    · rintro ⟨q1, q2, q3, q4⟩
      rcases (hlt s q1).1 q4 with q | q
      · exact (h.mem s).2 ⟨q1, q2, q3, q⟩
      · subst q; exact absurd q3 hls
/-- the cells of the list -/
def fl (st : Int) (la : Nat → Int) (es : List Nat) : List Value := es.flatMap (fun (t : Nat) => [.int .u32 st, .int .u32 0, .int .u32 (t : Int), .int .u32 (la t)])
theorem fl_snoc (st : Int) (la : Nat → Int) (es : List Nat) (t : Nat) : fl st la (es ++ [t]) = fl st la es ++ [.int .u32 st, .int .u32 0, .int .u32 (t : Int), .int .u32 (la t)] := by simp [fl]
/-- how many numbers below n have p -/
def cnt (p : Nat → Bool) : Nat → Nat | 0 => 0 | n + 1 => cnt p n + (if p n = true then 1 else 0)
theorem cnt_le (p : Nat → Bool) : ∀ n, cnt p n ≤ n
  | 0 => Nat.le_refl _
  | n + 1 => by unfold cnt; have := cnt_le p n; split <;> omega
theorem cnt_of (p : Nat → Bool) : ∀ (n : Nat) (es : List Nat), es.Nodup → (∀ t, t ∈ es ↔ t < n ∧ p t = true) → es.length = cnt p n
  | 0, es, _, h => by
    cases es with
    | nil => rfl
    | cons a es => exact absurd ((h a).1 (by simp)).1 (by omega)
  | n + 1, es, hd, h => by
    unfold cnt
    by_cases hp : p n = true
    · have hm : n ∈ es := (h n).2 ⟨by omega, hp⟩
      have h1 := cnt_of p n (es.erase n) (hd.erase n) (fun t => by
        rw [hd.mem_erase_iff, h t]
        constructor
        · rintro ⟨q1, q2, q3⟩; exact ⟨by omega, q3⟩
        · rintro ⟨q1, q2⟩; exact ⟨by omega, by omega, q2⟩)
      rw [List.length_erase_of_mem hm] at h1
      have := List.length_pos_of_mem hm
      rw [if_pos hp]
      omega
    · rw [if_neg hp]
      exact cnt_of p n es hd (fun t => by
        rw [h t]
        constructor
        · rintro ⟨q1, q2⟩; exact ⟨by (by_cases e : t = n; subst e; exact absurd q2 hp; omega), q2⟩
        · rintro ⟨q1, q2⟩; exact ⟨by omega, q2⟩)
theorem Es.num {es : List Nat} {us ks ns : List Int} {m n : Nat} {left : Lit → Bool} (h : Es es us ks ns m n left) : es.length = cnt (fun t => inT us m t && lst ks ns t && !left (kr t)) n :=
  cnt_of _ n es h.nodup (fun t => by rw [h.mem t]; simp [and_assoc])
theorem Es.len {es : List Nat} {us ks ns : List Int} {m n : Nat} {left : Lit → Bool} (h : Es es us ks ns m n left) : es.length ≤ n := by
  rw [h.num]; exact cnt_le _ n
end Go.Proofs.YtnfjfjcdehohhaaDoor
