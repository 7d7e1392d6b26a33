/-
  AccumulateSymbolUseCounts, walked. No statement of the seat is proved here.
-/
import Derived.Test.YtnfjfjcdehohhaaDoorMu
import Derived.Test.YtnfjfjcdehohhaaDoorAw
namespace Go.Proofs.YtnfjfjcdehohhaaDoor
open Go.RowKit
set_option linter.unusedVariables false
set_option linter.unusedSimpArgs false

theorem St.rng {w w' : World} {B R T S A X n g0 g1 c0 c1 : Nat} {kc : Array Value} {v2 v3 vm : Value} {st : Int} {v : Value} {k : Nat} {xs : List Value} (h : St w B R T S A X n g0 g1 c0 c1 kc v2 v3 vm st v k xs)
    {b r m : Nat} {D : DataW Unit} {left : Lit → Bool} {cnt : Nat} (hr : w.ranges Tryd.prog 42 Ru b r m D left cnt) (h0 : 0 ≠ r) (hg : w.grownBy w' (some r)) : St w' B R T S A X n g0 g1 c0 c1 kc v2 v3 vm st v k xs := by
  refine h.gb hg (fun g e => ?_)
  cases e
  obtain ⟨ts, cs, q1, q2, q3, q4, q5, q6⟩ := h.sy.out
  have ne : ∀ {b : Nat} {t : TypeId} {cs : Array Value}, Blk w b t cs → b ≠ r := fun hb => Ne.symm (ranges_cells hr hb).2
  obtain ⟨cu0, _, z0, _⟩ := h.s0
  obtain ⟨cu1, _, z1, _⟩ := h.s1
  exact ⟨ne h.blk, ne q1, ne q5, ne h.var, ne h.x, ne z0, ne z1, h0, fun e => by obtain ⟨_, cur, hc⟩ := h.row e; exact ne hc rfl⟩
theorem St.notL {w : World} {B R T S A X n g0 g1 c0 c1 : Nat} {kc : Array Value} {v2 v3 vm : Value} {st : Int} {v : Value} {k : Nat} {xs : List Value} (h : St w B R T S A X n g0 g1 c0 c1 kc v2 v3 vm st v k xs)
    {b : Nat} (hb : ∀ {g : Nat} {t : TypeId} {cs : Array Value}, Blk w g t cs → b ≠ g) : ¬ LL S g0 g1 A v b := by
  obtain ⟨ts, cs, q1, q2, q3, q4, q5, q6⟩ := h.sy.out
  obtain ⟨cu0, _, z0, _⟩ := h.s0
  obtain ⟨cu1, _, z1, _⟩ := h.s1
  rintro (e | e | e | e | e)
  · exact hb q5 e
  · exact hb z0 e
  · exact hb z1 e
  · exact hb h.var e
  · obtain ⟨_, cur, hc⟩ := h.row e; exact hb hc rfl
def L0 (S g0 g1 A : Nat) (i : Nat) : Prop := i = S ∨ i = g0 ∨ i = g1 ∨ i = A
/-- the loop under way -/
structure Lp (w wr : World) (B R T S A X n g0 g1 c0 c1 : Nat) (kc : Array Value) (v2 v3 vm : Value) (st : Int) (v : Value) (es : List Nat) (us cs ks ns : List Int) (m : Nat) (D : DataW Unit) (left : Lit → Bool) : Prop where
  st : St wr B R T S A X n g0 g1 c0 c1 kc v2 v3 vm st v es.length (fl st (lastT us cs m) es)
  es : Es es us ks ns m n left
  sub : ∀ kl, left kl = true → Maps.has D kl = true
  kp : Kp w wr (L0 S g0 g1 A)
  own : ∀ g, v.ownBlock = some g → w.heap.size ≤ g
theorem Lp.step {w wr w1 w2 w3 : World} {B R T S A X n g0 g1 c0 c1 : Nat} {kc : Array Value} {v2 v3 vm : Value} {st : Int} {v : Value} {es : List Nat} {us cs ks ns : List Int} {m N bm : Nat} {D : DataW Unit} {left : Lit → Bool} {cn cn' t : Nat}
    (h : Lp w wr B R T S A X n g0 g1 c0 c1 kc v2 v3 vm st v es us cs ks ns m D left) (hn : n ≤ 65536) (hrg : wr.ranges Tryd.prog 42 Ru bm w.heap.size N D left cn) (h0 : 0 ≠ w.heap.size) (ht : t < n) (hl : left (kr t) = true) (hin : inT us m t = true)
    (hrg1 : w1.ranges Tryd.prog 42 Ru bm w.heap.size N D (fun z => left z && !z.sameKey (kr t)) cn') (hg1 : wr.grownBy w1 (some w.heap.size)) (hg2 : w1.grownBy w2 none) {e : Ending}
    (ha : AcP w2 B R T S A X n g0 g1 c0 c1 kc v2 v3 vm st v es.length (fl st (lastT us cs m) es) (lst ks ns t) t (lastT us cs m t) e w3) :
    ∃ v' es', Lp w w3 B R T S A X n g0 g1 c0 c1 kc v2 v3 vm st v' es' us cs ks ns m D (fun z => left z && !z.sameKey (kr t)) ∧ w3.ranges Tryd.prog 42 Ru bm w.heap.size N D (fun z => left z && !z.sameKey (kr t)) cn' := by
  have hs2 := (h.st.rng hrg h0 hg1).grow hg2
  have hr2 := hrg1.kept hg2 (by simp) (by simp)
  obtain ⟨_, hk, v', hv, hst⟩ := ha
  refine ⟨v', if lst ks ns t = true then es ++ [t] else es, ⟨?_, h.es.step hn ht hl hin, fun kl hh => h.sub kl (by simp at hh; exact hh.1), ?_, fun g hg => ?_⟩, ?_⟩
  · by_cases e : lst ks ns t = true
    · rw [if_pos e] at hst ⊢
      rw [if_pos e] at hst
      rw [fl_snoc]
      simpa using hst
    · rw [if_neg e] at hst ⊢
      rw [if_neg e] at hst
      exact hst
  · refine (h.kp.then (Kp.of (L := fun i => w.heap.size ≤ i) hg1 (fun g e => by cases e; exact .inl (Nat.le_refl _))) (fun i hi hm => by omega)).then ((Kp.of (L := LL S g0 g1 A v) hg2 (fun g e => by cases e)).then hk (fun _ _ h => h)) (fun i hi hm => ?_)
    rcases hm with e | e | e | e | e
    · exact .inl e
    · exact .inr (.inl e)
    · exact .inr (.inr (.inl e))
    · exact .inr (.inr (.inr e))
    · have := h.own i e; omega
  · have hw : w.heap.size ≤ w2.heap.size := Nat.le_trans h.kp.size (Nat.le_trans hg1.size hg2.size)
    rcases hv with e | e | ⟨g', e, hge⟩
    · subst e; exact h.own g hg
    · rw [e] at hg; exact h.own g hg
    · rw [e] at hg; cases hg; omega
  · exact hk.ranges hr2 (hs2.notL (fun hb => (ranges_cells hr2 hb).1)) (hs2.notL (fun hb => (ranges_cells hr2 hb).2))
set_option maxHeartbeats 2000000 in
set_option maxRecDepth 100000 in
theorem uc_any (B R T S A X n g0 g1 c0 c1 bm N m : Nat) (kc : Array Value) (us cs ks ns : List Int) (v2 v3 vm : Value) (st : Int) (D : DataW Unit) (hn : n ≤ 65536)
    (hkc : Kc kc n ks ns) (hns : ∀ i, i < n → 0 ≤ nth ns i ∧ nth ns i < 4294967296) (hk8 : ∀ i, i < n → 0 ≤ nth ks i ∧ nth ks i < 256) (hno : NestOk ks ns c0 c1 n) (hle : c0 ≤ 200000 ∧ c1 ≤ 200000) (hU : Uses D us cs m n)
    (w : World) (hB : B ≤ w.heap.size) (h : St w B R T S A X n g0 g1 c0 c1 kc v2 v3 vm st (.slice none 0 0) 0 []) (hm : Mu w bm N D) :
    Calls Tryd.prog 13 #[.pointer (some ⟨R, 0, none⟩), .pointer (some ⟨A, 0, none⟩), .map (some bm), .slice (some ⟨X, 0, none⟩) 1 1] w fun e w' => e = .returned (.tuple #[]) ∧ ∃ v es, Lp w w' B R T S A X n g0 g1 c0 c1 kc v2 v3 vm st v es us cs ks ns m D (fun _ => false) := by
  have h0 : 0 ≠ w.heap.size := by have := h.le; omega
  have HAC := Lib.hid (fun (v : Value) (k : Nat) (xs : List Value) (c : Int) (hk : k ≤ 65536) (t : Nat) (ht : t < n) (W : World) (hW : B ≤ W.heap.size) (hS : St W B R T S A X n g0 g1 c0 c1 kc v2 v3 vm st v k xs) => ac_any B R T S A X n g0 g1 c0 c1 kc ks ns v2 v3 vm st c v k xs hn hk hkc hns hk8 hno hle t ht W hW hS)
  have HS := Lib.hid h
  have HU := Lib.hid hU
  clear hkc hns hk8 hno h hU
  go_enter Tryd.func13, Tryd.ntmps13
  go_wp2_with (first
    | (at_range; refine wpList_range_own _ rfl _ 37 rfl 42 40 keyed42 Tryd.underlying37 Ru bm N D rfl hm ?_; intro w0 hrg0 hg0 hs0)
    | go_in)
  go_frame
  go_loopw [8] (fun _ wr => ∃ (left : Lit → Bool) (cn : Nat) (v : Value) (es : List Nat), wr.ranges Tryd.prog 42 Ru bm w.heap.size N D left cn ∧ Hid (Lp w wr B R T S A X n g0 g1 c0 c1 kc v2 v3 vm st v es us cs ks ns m D left)) (fun _ wr => wr.rangeLeft bm w.heap.size)
  case atStart =>
    refine ⟨_, _, .slice none 0 0, [], hrg0, Lib.hid ⟨HS.out.grow hg0, Es.nil (fun t ht hi => by rw [HU.out.has t ht]; exact hi), fun _ h => h, Kp.of hg0 (fun g e => by cases e), fun g e => by cases e⟩⟩
  case round =>
    obtain ⟨left, cn, v, es, hrg, HL⟩ := hrel
    go_wp2_with (first
      | (at_next; refine wpList_next_use _ rfl _ rfl bm w.heap.size N n m us cs D left cn HU.out hn (by rfl) hrg HL.out.sub ?_ ?_)
      | go_in)
    · intro hl0
      go_wp2
      go_end0
      have e : left = fun _ => false := funext hl0
      subst e
      exact ⟨rfl, v, es, HL.out⟩
    · intro t w1 cn1 ht hl hin hrg1 hlt hg1 hen
      have HX := Lib.hid (And.intro hrg (And.intro hrg1 (And.intro hg1 (And.intro hl (And.intro hin hlt)))))
      have HBW := Lib.hid (fun (W : World) (hW : w1.grownBy W none) => (Nat.le_trans hB (Nat.le_trans HL.out.kp.size (Nat.le_trans hg1.size hW.size)) : B ≤ W.heap.size))
      obtain ⟨cc, hcc⟩ : ∃ cc, lastT us cs m t = cc := ⟨_, rfl⟩
      rw [hcc] at hen
      have HCC := Lib.hid hcc
      clear hcc hrg hrg1 hg1 hl hin hlt
      simp only [HCC.out]
      go_wp2_with (first | (go_at_call 20; refine (HAC.out v es.length _ cc (Nat.le_trans HL.out.es.len hn) t ht _ (HBW.out _ (gb_alloc (gb_alloc (gb_refl _ _) _) _)) ((HL.out.st.rng HX.out.1 h0 HX.out.2.2.1).grow (gb_alloc (gb_alloc (gb_refl _ _) _) _))).mono ?_; rintro e w4 hac; have HE := Lib.hid (show e = .returned (.tuple #[]) from hac.1); have HA := Lib.hid hac; clear hac; obtain rfl := HE.out))
      rw [← HCC.out] at HA
      obtain ⟨v', es', hlp, hrg4⟩ := HL.out.step hn HX.out.1 h0 ht HX.out.2.2.2.1 HX.out.2.2.2.2.1 HX.out.2.1 HX.out.2.2.1 (gb_alloc (gb_alloc (gb_refl _ _) _) _) HA.out
      go_roundw
      case rel => exact ⟨_, cn1, v', es', hrg4, Lib.hid hlp⟩
      case measure => rw [hrg4.left_eq, HX.out.1.left_eq]; exact HX.out.2.2.2.2.2
end Go.Proofs.YtnfjfjcdehohhaaDoor
