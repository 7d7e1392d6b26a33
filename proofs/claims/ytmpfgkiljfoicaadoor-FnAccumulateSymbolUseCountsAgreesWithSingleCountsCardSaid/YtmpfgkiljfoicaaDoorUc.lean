/-
  AccumulateSymbolUseCounts, walked. No statement of the seat is proved here.
-/
import Derived.Test.YtmpfgkiljfoicaaDoorMu
import Derived.Test.YtmpfgkiljfoicaaDoorAw
namespace Go.Proofs.YtmpfgkiljfoicaaDoor
open Go.RowKit
set_option linter.unusedVariables false
set_option linter.unusedSimpArgs false

theorem St.rng {m : Pm} {w w' : World} {B R T S A X g0 g1 : Nat} {kc : Array Value} {v0 v2 v3 vm v : Value} {L : List Nat} (h : St m w B R T S A X g0 g1 kc v0 v2 v3 vm v L)
    {b r N : Nat} {D : DataW Unit} {left : Lit → Bool} {cnt : Nat} (hr : w.ranges Tryd.prog 30 Ru b r N D left cnt) (h0 : 0 ≠ r) (hg : w.grownBy w' (some r)) : St m w' B R T S A X g0 g1 kc v0 v2 v3 vm v L := by
  refine h.gb hg (fun g e => ?_)
  cases e
  obtain ⟨ts, cs, q1, q2, q3, q4, q5, q6⟩ := h.sy.out
  have ne : ∀ {b : Nat} {t : TypeId} {cs : Array Value}, Blk w b t cs → b ≠ r := fun hb => Ne.symm (ranges_cells hr hb).2
  obtain ⟨cu0, _, z0, _⟩ := h.s0
  obtain ⟨cu1, _, z1, _⟩ := h.s1
  exact ⟨ne h.blk, ne q1, ne q5, ne h.var, ne h.x, ne z0, ne z1, h0, fun e => by obtain ⟨_, cur, hc⟩ := h.row e; exact ne hc rfl⟩
theorem St.notL {m : Pm} {w : World} {B R T S A X g0 g1 : Nat} {kc : Array Value} {v0 v2 v3 vm v : Value} {L : List Nat} (h : St m w B R T S A X g0 g1 kc v0 v2 v3 vm v L)
    {b : Nat} (hb : ∀ {g : Nat} {t : TypeId} {cs : Array Value}, Blk w g t cs → b ≠ g) : ¬ LL S g0 g1 A v b := by
  obtain ⟨ts, cs, q1, q2, q3, q4, q5, q6⟩ := h.sy.out
  obtain ⟨cu0, _, z0, _⟩ := h.s0
  obtain ⟨cu1, _, z1, _⟩ := h.s1
  rintro (e | e | e | e | e)
  · exact hb q5 e
  · exact hb z0 e
  · exact hb z1 e
  · exact hb h.var e
  · obtain ⟨_, cur, hc⟩ := h.row e; exact hb hc rfl
def L0 (S g0 g1 A : Nat) (i : Nat) : Prop := i = S ∨ i = g0 ∨ i = g1 ∨ i = A
/-- the loop under way -/
structure Lp (m : Pm) (w wr : World) (B R T S A X g0 g1 : Nat) (kc : Array Value) (v0 v2 v3 vm v : Value) (L : List Nat) (k : Nat) (D : DataW Unit) (left : Lit → Bool) : Prop where
  st : St m wr B R T S A X g0 g1 kc v0 v2 v3 vm v L
  es : Ls L k left
  sub : ∀ kl, left kl = true → Maps.has D kl = true
  kp : Kp w wr (L0 S g0 g1 A)
  own : ∀ g, v.ownBlock = some g → w.heap.size ≤ g
theorem Lp.step {m : Pm} {w wr w1 w2 w3 : World} {B R T S A X g0 g1 : Nat} {kc : Array Value} {v0 v2 v3 vm v : Value} {L : List Nat} {k N bm : Nat} {D : DataW Unit} {left : Lit → Bool} {cn cn' t : Nat}
    (h : Lp m w wr B R T S A X g0 g1 kc v0 v2 v3 vm v L k D left) (hn : k ≤ 65536) (hrg : wr.ranges Tryd.prog 30 Ru bm w.heap.size N D left cn) (h0 : 0 ≠ w.heap.size) (ht : t < k) (hl : left (kr t) = true)
    (hrg1 : w1.ranges Tryd.prog 30 Ru bm w.heap.size N D (fun z => left z && !z.sameKey (kr t)) cn') (hg1 : wr.grownBy w1 (some w.heap.size)) (hg2 : w1.grownBy w2 none) {e : Ending}
    (ha : AcP m w2 B R T S A X g0 g1 kc v0 v2 v3 vm v L t e w3) :
    ∃ v', Lp m w w3 B R T S A X g0 g1 kc v0 v2 v3 vm v' (L ++ [t]) k D (fun z => left z && !z.sameKey (kr t)) ∧ w3.ranges Tryd.prog 30 Ru bm w.heap.size N D (fun z => left z && !z.sameKey (kr t)) cn' := by
  have hs2 := (h.st.rng hrg h0 hg1).grow hg2
  have hr2 := hrg1.kept hg2 (by simp) (by simp)
  obtain ⟨_, hk, v', hv, hst⟩ := ha
  refine ⟨v', ⟨hst, h.es.step hn ht hl, fun kl hh => h.sub kl (by simp at hh; exact hh.1), ?_, fun g hg => ?_⟩, ?_⟩
  · refine (h.kp.then (Kp.of (L := fun i => w.heap.size ≤ i) hg1 (fun g e => by cases e; exact .inl (Nat.le_refl _))) (fun i hi hm => by omega)).then ((Kp.of (L := LL S g0 g1 A v) hg2 (fun g e => by cases e)).then hk (fun _ _ h => h)) (fun i hi hm => ?_)
    rcases hm with e | e | e | e | e
    · exact .inl e
    · exact .inr (.inl e)
    · exact .inr (.inr (.inl e))
    · exact .inr (.inr (.inr e))
    · have := h.own i e; omega
  · have hw : w.heap.size ≤ w2.heap.size := Nat.le_trans h.kp.size (Nat.le_trans hg1.size hg2.size)
    rcases hv with e | e | ⟨g', e, hge⟩
    · subst e; exact h.own g hg
    · rw [e] at hg; exact h.own g hg
    · rw [e] at hg; cases hg; omega
  · exact hk.ranges hr2 (hs2.notL (fun hb => (ranges_cells hr2 hb).1)) (hs2.notL (fun hb => (ranges_cells hr2 hb).2))
set_option maxHeartbeats 2000000 in
set_option maxRecDepth 100000 in
theorem uc_any (m : Pm) (hm : m.Ok) (B R T S A X g0 g1 bm N k : Nat) (kc : Array Value) (v0 v2 v3 vm : Value) (D : DataW Unit) (hkn : k ≤ m.n)
    (hkc : Kc m kc) (hU : Uses D m.us k)
    (w : World) (hB : B ≤ w.heap.size) (h : St m w B R T S A X g0 g1 kc v0 v2 v3 vm (.slice none 0 0) []) (hmu : Mu w bm N D) :
    Calls Tryd.prog 9 #[.pointer (some ⟨R, 0, none⟩), .pointer (some ⟨A, 0, none⟩), .map (some bm), .slice (some ⟨X, 0, none⟩) 1 1] w fun e w' => e = .returned (.tuple #[]) ∧ ∃ v L, Lp m w w' B R T S A X g0 g1 kc v0 v2 v3 vm v L k D (fun _ => false) := by
  have h0 : 0 ≠ w.heap.size := by have := h.le; omega
  have hn : k ≤ 65536 := by have := hm.hn; omega
  have HAC := Lib.hid (fun (v : Value) (L : List Nat) (hL : L.length ≤ k) (t : Nat) (ht : t < k) (c : Int) (hc : m.us t = c) (W : World) (hW : B ≤ W.heap.size) (hS : St m W B R T S A X g0 g1 kc v0 v2 v3 vm v L) => ac_any m hm B R T S A X g0 g1 kc v0 v2 v3 vm v L (by omega) hkc t (by omega) c hc W hW hS)
  have HS := Lib.hid h
  have HU := Lib.hid hU
  clear hkc h hU hm hkn
  go_enter Tryd.func9, Tryd.ntmps9
  go_wp2_with (first
    | (at_range; refine wpList_range_own _ rfl _ 26 rfl 30 28 keyed42 Tryd.underlying26 Ru bm N D rfl hmu ?_; intro w0 hrg0 hg0 hs0)
    | go_in)
  go_frame
  go_loopw [8] (fun _ wr => ∃ (left : Lit → Bool) (cn : Nat) (v : Value) (L : List Nat), wr.ranges Tryd.prog 30 Ru bm w.heap.size N D left cn ∧ Hid (Lp m w wr B R T S A X g0 g1 kc v0 v2 v3 vm v L k D left)) (fun _ wr => wr.rangeLeft bm w.heap.size)
  case atStart =>
    refine ⟨_, _, .slice none 0 0, [], hrg0, Lib.hid ⟨HS.out.grow hg0, Ls.nil (fun t ht => by rw [HU.out.has t (by omega)]; simpa using ht), fun _ h => h, Kp.of hg0 (fun g e => by cases e), fun g e => by cases e⟩⟩
  case round =>
    obtain ⟨left, cn, v, L, hrg, HL⟩ := hrel
    go_wp2_with (first
      | (at_next; refine wpList_next_use _ rfl _ rfl bm w.heap.size N k m.us D left cn HU.out hn (by rfl) hrg HL.out.sub ?_ ?_)
      | go_in)
    · intro hl0
      go_wp2
      go_end0
      have e : left = fun _ => false := funext hl0
      subst e
      exact ⟨rfl, v, L, HL.out⟩
    · intro t w1 cn1 ht hl hrg1 hlt hg1 hen
      have HX := Lib.hid (And.intro hrg (And.intro hrg1 (And.intro hg1 (And.intro hl hlt))))
      have HBW := Lib.hid (fun (W : World) (hW : w1.grownBy W none) => (Nat.le_trans hB (Nat.le_trans HL.out.kp.size (Nat.le_trans hg1.size hW.size)) : B ≤ W.heap.size))
      obtain ⟨cc, hcc⟩ : ∃ cc, m.us t = cc := ⟨_, rfl⟩
      rw [hcc] at hen
      have HCC := Lib.hid hcc
      clear hcc hrg hrg1 hg1 hl hlt
      simp only [HCC.out]
      go_wp2_with (first | (go_at_call 10; refine (HAC.out v L HL.out.es.len t ht cc HCC.out _ (HBW.out _ (gb_alloc (gb_alloc (gb_refl _ _) _) _)) ((HL.out.st.rng HX.out.1 h0 HX.out.2.2.1).grow (gb_alloc (gb_alloc (gb_refl _ _) _) _))).mono ?_; rintro e w4 hac; have HE := Lib.hid (show e = .returned (.tuple #[]) from hac.1); have HA := Lib.hid hac; clear hac; obtain rfl := HE.out))
      obtain ⟨v', hlp, hrg4⟩ := HL.out.step hn HX.out.1 h0 ht HX.out.2.2.2.1 HX.out.2.1 HX.out.2.2.1 (gb_alloc (gb_alloc (gb_refl _ _) _) _) HA.out
      go_roundw
      case rel => exact ⟨_, cn1, v', L ++ [t], hrg4, Lib.hid hlp⟩
      case measure => rw [hrg4.left_eq, HX.out.1.left_eq]; exact HX.out.2.2.2.2
end Go.Proofs.YtmpfgkiljfoicaaDoor
