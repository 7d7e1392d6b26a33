/-
  The law's walk, whole. No statement of the seat is proved here.
-/
import Derived.Test.YtmfhoeihdikklaaFmtZs
import Derived.Test.YtmfhoeihdikklaaFmtZn
import Derived.Test.YtmfhoeihdikklaaFmtCy
import Derived.Deep.LoopGhost
import Derived.Deep.DeepCutAuto
namespace Go.Proofs.YtmfhoeihdikklaaFmt
open Go.Maps Go.RowKit
set_option linter.unusedVariables false
set_option linter.unusedSimpArgs false

theorem blk_ne {w : World} {a b : Nat} {t u : TypeId} {cs ds : Array Value} (h : Blk w a t cs) (k : Blk w b u ds) (hn : t ≠ u) : a ≠ b := by
  intro e
  subst e
  unfold Blk at h k
  rw [h] at k
  cases k
  exact hn rfl
structure Al (w0 w : World) (a0 a1 a2 a3 a4 : Option Addr) (zs : List Int) (ts : List ByteArray) (ls ks : List Int) (vs : List ByteArray) : Prop where
  i0 : In .u8 w a0 zs
  i1 : InS w a1 ts
  i2 : In .u32 w a2 ls
  i3 : In .u32 w a3 ks
  i4 : InS w a4 vs
  iv : Iv w
  tb : Lib.Utf8Tabs 1 2 w
  bl : Below w0.heap.size w0 w
theorem tabs_bel {w w' : World} (h : Lib.Utf8Tabs 1 2 w) (hb : Below w.heap.size w w') : Lib.Utf8Tabs 1 2 w' :=
  tabs_gb (r := some w.heap.size) h ⟨hb.os, hb.tape, hb.output, hb.size, fun i hi _ => hb.block i hi⟩ (fun e => by have := (tabs_lt h).1; have := Option.some.inj e; omega) (fun e => by have := (tabs_lt h).2; have := Option.some.inj e; omega)
section
variable {w0 w w' : World} {a0 a1 a2 a3 a4 : Option Addr} {zs : List Int} {ts : List ByteArray} {ls ks : List Int} {vs : List ByteArray}
theorem Al.kept (h : Al w0 w a0 a1 a2 a3 a4 zs ts ls ks vs) (hb : Below w.heap.size w w') : Al w0 w' a0 a1 a2 a3 a4 zs ts ls ks vs := by
  have l := tabs_lt h.tb
  exact ⟨h.i0.kept hb, h.i1.kept hb, h.i2.kept hb, h.i3.kept hb, h.i4.kept hb, ⟨(hb.cell (p := ⟨0, 0, none⟩) (show 0 < w.heap.size by omega)).trans h.iv.1, (hb.cell (p := ⟨0, 1, none⟩) (show 0 < w.heap.size by omega)).trans h.iv.2⟩, tabs_bel h.tb hb, h.bl.trans (hb.mono h.bl.size)⟩
end
def rkf (ls : List Int) (i : Nat) : Nat := if nth ls i = 0 then 0 else 1
theorem tgt_link {ls : List Int} {i : Nat} (h : nth ls i ≠ 0) : tgt ls i = (nth ls i - 1).toNat := by unfold tgt; rw [if_neg h]
theorem tgt_root {ls : List Int} {i : Nat} (h : nth ls i = 0) : tgt ls i = i := by unfold tgt; rw [if_pos h]
theorem roots {l1 l2 l3 l4 r : Nat} {ls : List Int} (h : Wf l1 l2 l3 l4 ls r) (hl : ls.length = l2) (hb : ∀ i, i < ls.length → 0 ≤ nth ls i ∧ nth ls i < 4294967296) : ∀ j, j < l1 → tgt ls j < l1 ∧ rkf ls (tgt ls j) ≤ rkf ls j ∧ tgt ls (tgt ls j) = tgt ls j := by
  intro j hj
  have e1 := h.e1
  by_cases e : nth ls j = 0
  · rw [tgt_root e]
    exact ⟨hj, Nat.le_refl _, tgt_root e⟩
  · have hk := h.ok j (by omega) e
    have hb' := hb j (by omega)
    rw [tgt_link e]
    refine ⟨by omega, ?_, tgt_root hk.2⟩
    unfold rkf
    rw [if_pos hk.2]
    omega
theorem sy_of {w : World} {S T l1 l2 l3 l4 r : Nat} {ts : List ByteArray} {ls : List Int} (h : Wf l1 l2 l3 l4 ls r) (hl : ls.length = l2) (hb : ∀ i, i < ls.length → 0 ≤ nth ls i ∧ nth ls i < 4294967296)
    (hbt : Bt w S l1 l1 ts ls) (hT : Blk w T 44 #[.slice (some ⟨S, 0, none⟩) l1 l1]) : ∃ kc, Sy w T S 1 l1 kc (tgt ls) (rkf ls) ∧ ∀ i, i < l1 → kc[i * 10 + 1]? = some (.string (tth ts i)) := by
  obtain ⟨cs, q1, q2, q3⟩ := hbt.out
  have e1 := h.e1
  refine ⟨cs, ⟨_, cs, hT, rfl, rfl, by omega, q1, q2, fun _ _ _ => rfl, fun i hi => ?_⟩, fun i hi => (q3 i hi).name⟩
  have hr := q3 i hi
  by_cases e : nth ls i = 0
  · refine .inl ⟨?_, ?_, tgt_root e⟩
    · rw [hr.l2, if_pos e]
    · rw [hr.l3, if_pos e]
  · have hk := h.ok i (by omega) e
    have hb' := hb i (by omega)
    refine .inr ⟨(nth ls i - 1).toNat, by omega, ?_, ?_, ?_, ?_⟩
    · rw [hr.l2, if_neg e]
    · rw [hr.l3, if_neg e, Int.toNat_of_nonneg (by omega)]
    · unfold rkf
      rw [if_pos hk.2, if_neg e]
      omega
    · rw [tgt_root hk.2, tgt_link e]
theorem mp_lt {w : World} {M n : Nat} {D : DataW Unit} (h : Mp w M n D) : M < w.heap.size := by
  obtain ⟨es, clock, hb, _⟩ := h
  exact (Array.getElem?_eq_some_iff.mp hb).1
theorem mp_ne {w : World} {M n S : Nat} {D : DataW Unit} {t : TypeId} {cs : Array Value} (h : Mp w M n D) (hS : Blk w S t cs) : M ≠ S := by
  intro e
  subst e
  obtain ⟨es, clock, hb, _⟩ := h
  have hb' : w.heap[M]? = _ := hb
  unfold Blk at hS
  rw [hS] at hb'
  cases hb'
theorem ps_of {w wc : World} {B p S T M l1 l2 l3 l4 r : Nat} {a : Bool} {D : DataW Unit} {zs : List Int} {ts : List ByteArray} {ls : List Int} (h : Wf l1 l2 l3 l4 ls r) (hl : ls.length = l2) (hb : ∀ i, i < ls.length → 0 ≤ nth ls i ∧ nth ls i < 4294967296)
    (hp : Pr w B p 0 false a (some M) (some ⟨T, 0, none⟩, 1) zs 0 0) (hbt : Bt w S l1 l1 ts ls) (hT : Blk w T 44 #[.slice (some ⟨S, 0, none⟩) l1 l1]) (hm : Mp w M l3 D) (iv : Iv w) (tb : Lib.Utf8Tabs 1 2 w) (h2 : 2 < wc.heap.size) (hS : wc.heap.size ≤ S) (hB : B ≤ wc.heap.size) :
    ∃ kc ao c, Ps w w.heap.size B p a M T S l1 l3 kc (tgt ls) (rkf ls) D zs ao c ∧ ∀ i, i < l1 → kc[i * 10 + 1]? = some (.string (tth ts i)) := by
  obtain ⟨kc, hsy, hn⟩ := sy_of h hl hb hbt hT
  obtain ⟨ao, c, b1, b2, b3, b4⟩ := hp
  obtain ⟨cs, q1, q2, q3⟩ := hbt.out
  refine ⟨kc, ao, c, ⟨b1, b2, b3, fun g hg => ⟨(b2.lt g hg).2, ?_⟩, hsy, hm, iv, tb, ⟨b1.lt, hT.lt, q1.lt, mp_lt hm, (tabs_lt tb).2, blk_ne b1 q1 (by decide), blk_ne hT q1 (by decide), mp_ne hm q1, by omega, b4, by omega, by have := q1.lt; omega⟩⟩, hn⟩
  rcases b2.2 with ⟨e, _⟩ | ⟨g', cap, cur, hv, _, hh, _⟩
  · rw [e] at hg; cases hg
  · rw [hv] at hg
    have e := Option.some.inj hg
    dsimp at e
    subst e
    exact blk_ne hh q1 (by decide)
theorem slow_len (t : ByteArray) (b : Bool) : ∀ k i, (slow t b k i).length ≤ 5 * k
  | 0, _ => Nat.le_refl _
  | k + 1, i => by
    have h1 := slow_len t b k (i + wd t i)
    have h2 := piece_len t b i
    unfold slow
    by_cases h : i < t.size
    · rw [if_pos h, List.length_append]; omega
    · rw [if_neg h]; simp
theorem out_len (t : ByteArray) : (out t).length ≤ 5 * t.size := by
  unfold out
  split
  · rw [byt_length]; omega
  · exact slow_len _ _ _ _
theorem chosen_small {l0 l1 l2 l3 l4 r : Nat} {ts vs : List ByteArray} {ls ks : List Int} (hf : Fit l0 l1 l2 l3 l4 ts vs) (h : Wf l1 l2 l3 l4 ls r) (hl : ls.length = l2) (hk : ks.length = l3) (hb : ∀ i, i < ls.length → 0 ≤ nth ls i ∧ nth ls i < 4294967296) : (chosen ts ls ks vs r).size ≤ 1048576 := by
  have ht := tgt_lt h hl hb
  have e2 := h.e2
  unfold chosen
  cases hj : lastJ ks (tgt ls r) ks.length with
  | none => exact hf.ts _ ht
  | some j => have := lastJ_lt hj; exact hf.vs j (by omega)
set_option maxHeartbeats 4000000 in
set_option maxRecDepth 100000 in
theorem sn_any (p r : Nat) (ws : Int) (w : World) (F : Ending → World → Prop) (hF : Calls Tryf.prog 20 #[.pointer (some ⟨p, 0, none⟩), .agg #[.int .i32 0], .agg #[.int .u32 0, .int .u32 (r : Int)], .int .u8 0, .int .u8 ws] w fun e w' => e = .returned (.tuple #[]) ∧ F e w') :
    Calls Tryf.prog 13 #[.pointer (some ⟨p, 0, none⟩), .int .u32 (r : Int), .int .u8 ws] w fun e w' => e = .returned (.tuple #[]) ∧ F e w' := by
  go_enter Tryf.func13, Tryf.ntmps13
  go_wp2_with (go_at_call 20; refine hF.mono ?_; rintro e w2 ⟨rfl, h2⟩; have H2 := Lib.hid h2; clear h2)
  go_end0
  exact ⟨rfl, H2.out⟩
theorem in_any (p : Nat) (t : ByteArray) (ws : Int) (w : World) (F : Ending → World → Prop) (hF : Calls Tryf.prog 21 #[.pointer (some ⟨p, 0, none⟩), .string t, .int .u8 0, .int .u8 ws] w fun e w' => e = .returned (.tuple #[]) ∧ F e w') :
    Calls Tryf.prog 16 #[.pointer (some ⟨p, 0, none⟩), .string t, .int .u8 ws] w fun e w' => e = .returned (.tuple #[]) ∧ F e w' := by
  go_enter Tryf.func16, Tryf.ntmps16
  go_wp2_with (go_at_call 21; refine hF.mono ?_; rintro e w2 ⟨rfl, h2⟩; have H2 := Lib.hid h2; clear h2)
  go_end0
  exact ⟨rfl, H2.out⟩
end Go.Proofs.YtmfhoeihdikklaaFmt
