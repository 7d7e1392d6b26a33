/-
  The law's helpers: its parameters in plain numbers, and what stands between the walk's stages. No statement of the seat is proved here.
-/
import Derived.Test.YtmpfgkiljfoicaaDoorUc
import Derived.Test.YtmpfgkiljfoicaaDoorBd
import Derived.Test.YtmpfgkiljfoicaaDoorSr
import Derived.Test.YtmpfgkiljfoicaaDoorSs
namespace Go.Proofs.YtmpfgkiljfoicaaDoor
open Go.RowKit
set_option linter.unusedVariables false
set_option linter.unusedSimpArgs false

def SomeBool (e : Ending) : Prop := ∃ b, e = .returned (.bool b)
theorem zb_any (a0 a1 a2 a4 a5 : Option Addr) (l0 l1 l2 l4 l5 p0 p1 p2 p4 p5 : Nat) (c st : Int) (w : World) :
    Calls Tryd.prog 4 #[.slice a0 l0 p0, .slice a1 l1 p1, .slice a2 l2 p2, .int .u32 c, .slice a4 l4 p4, .slice a5 l5 p5, .int .u32 st] w fun e w' => SomeBool e ∧ w' = w := by
  go_enter Tryd.func4, Tryd.ntmps4
  go_wp2
  all_goals go_ret
  all_goals exact ⟨⟨_, rfl⟩, rfl⟩
def mkPm (n c : Nat) (ks fs ns ls us : List Int) (st : Int) : Pm := { n := n, c := c, kd := fun i => kdOf (nth ks i), fg := fun i => nth fs i % 4, nx := fun i => nxOf (nst ns c i), us := nth us, root := rootOf (lnk ls), rk := rkOf (lnk ls), st := st }
theorem nst_lt {ns : List Int} {c i s : Nat} (h : nst ns c i = some s) : s < c := by
  unfold nst at h
  split at h
  · cases h
  · rename_i hc
    have h := Option.some.inj h
    have h1 := Int.emod_lt_of_pos (nth ns i - 1) (show (0 : Int) < (c : Int) by omega)
    have h2 := Int.emod_nonneg (nth ns i - 1) (show (c : Int) ≠ 0 by omega)
    omega
theorem nth_nn {zs : List Int} (h : ∀ i, i < zs.length → 0 ≤ nth zs i) (i : Nat) : 0 ≤ nth zs i := by
  by_cases e : i < zs.length
  · exact h i e
  · simp [nth, List.getD, show zs.length ≤ i by omega]
theorem mkPm_ok (n c : Nat) (ks fs ns ls us : List Int) (st : Int) (hn : n ≤ 4096) (hc : c ≤ 4096) (hl : ∀ i, i < ls.length → 0 ≤ nth ls i) (hst : 0 ≤ st ∧ st < 4294967296) : (mkPm n c ks fs ns ls us st).Ok := by
  refine ⟨hn, hc, fun i hi => ?_, fun i hi => ?_, fun i hi => ?_, fun j hj => ?_, hst⟩
  · show kdOf _ = 27 ∨ kdOf _ = 18 ∨ kdOf _ = 0
    unfold kdOf
    split
    · exact .inl rfl
    · split
      · exact .inr (.inl rfl)
      · exact .inr (.inr rfl)
  · show nth fs i % 4 = 0 ∨ nth fs i % 4 = 1 ∨ nth fs i % 4 = 2 ∨ nth fs i % 4 = 3
    omega
  · show nxOf _ = 0 ∨ _
    cases h : nst ns c i with
    | none => exact .inl rfl
    | some s => exact .inr ⟨s, nst_lt h, by show nxOf (nst ns c i) = _; rw [h]; rfl⟩
  · have h := root_ok (lnk ls) (fun i l h => (lnk_lt h (nth_nn hl i)).1) j
    exact ⟨Nat.lt_of_le_of_lt h.1 hj, h.2⟩
/-- the table, as the accumulation reads it -/
theorem Bt.sy {w : World} {S T n c : Nat} {ks fs ns ls us : List Int} {st : Int} (h : Bt w S n n ks fs ns ls c) (hT : Blk w T 57 #[.slice (some ⟨S, 0, none⟩) n n]) (hl : ∀ i, i < ls.length → 0 ≤ nth ls i) :
    ∃ kc, Sy w T S 1 n kc (mkPm n c ks fs ns ls us st).root (mkPm n c ks fs ns ls us st).rk ∧ Kc (mkPm n c ks fs ns ls us st) kc := by
  obtain ⟨cs, h1, h2, h3, _⟩ := h.out
  refine ⟨cs, ⟨_, cs, hT, rfl, rfl, by decide, h1, h2, fun _ _ _ => rfl, fun i hi => ?_⟩, fun i hi => ⟨(h3 i hi).alias, (h3 i hi).nest, (h3 i hi).flags, (h3 i hi).kind⟩⟩
  have q2 := (h3 i hi).l2
  have q3 := (h3 i hi).l3
  cases hk : lnk ls i with
  | none =>
    rw [hk] at q2 q3
    exact .inl ⟨q2, q3, (root_none hk).1⟩
  | some l =>
    rw [hk] at q2 q3
    have hlt := (lnk_lt hk (nth_nn hl i)).1
    have e := root_some hk hlt
    exact .inr ⟨l, by omega, q2, q3, by show rkOf _ l < rkOf _ i; rw [e.2]; omega, e.1.symm⟩
theorem New.kept {rm : Option Nat} {w w' : World} {B R T bm g0 g1 g2 g3 c0 c1 c2 c3 : Nat} (h : New rm w B R T bm g0 g1 g2 g3 c0 c1 c2 c3) (hb : Below w.heap.size w w') : New rm w' B R T bm g0 g1 g2 g3 c0 c1 c2 c3 :=
  ⟨h.blk.kept hb, h.r0.kept hb, h.r1.kept hb, h.r2.kept hb, h.r3.kept hb, below_blk hb h.map (blk_lt h.map), h.ne, h.le⟩
theorem Sy.kept {w w' : World} {T S tl n : Nat} {ks : Array Value} {root rk : Nat → Nat} (h : Sy w T S tl n ks root rk) (hb : Below w.heap.size w w') : Sy w' T S tl n ks root rk := by
  obtain ⟨ts, cs, q1, q2, q3, q4, q5, q6⟩ := h.out
  exact ⟨ts, cs, q1.kept hb, q2, q3, q4, q5.kept hb, q6⟩
theorem Iv.below {w w' : World} (h : Iv w) (hb : Below w.heap.size w w') : Iv w' := by
  have hl : 0 < w.heap.size := World.block_lt_of_cell? w _ h.1
  exact ⟨(hb.cell (p := ⟨0, 0, none⟩) hl).trans h.1, (hb.cell (p := ⟨0, 1, none⟩) hl).trans h.2⟩
theorem Mu.below {w w' : World} {M n : Nat} {D : DataW Unit} (h : Mu w M n D) (hb : Below w.heap.size w w') : Mu w' M n D := by
  obtain ⟨es, clock, q, rest⟩ := h
  exact ⟨es, clock, below_blk hb q (blk_lt q), rest⟩
/-- one renamer with its table, fresh -/
structure Rn (m : Pm) (w : World) (lo hi R T S g0 g1 g2 g3 : Nat) (kc : Array Value) (v0 vm : Value) : Prop where
  blk : Blk w R 56 #[v0, .slice (some ⟨g0, 0, none⟩) m.c m.c, .slice (some ⟨g1, 0, none⟩) m.c m.c, .slice (some ⟨g2, 0, none⟩) 0 0, .slice (some ⟨g3, 0, none⟩) 0 0, vm, .slice (some ⟨T, 0, none⟩) 1 1]
  r0 : Blk w g0 84 (zs m.c)
  r1 : Blk w g1 84 (zs m.c)
  ne : g0 ≠ g1
  sy : Sy w T S 1 m.n kc m.root m.rk
  kc : Kc m kc
  le : lo ≤ R ∧ lo ≤ T ∧ lo ≤ S ∧ lo ≤ g0 ∧ lo ≤ g1
  lt : R < hi ∧ T < hi ∧ S < hi ∧ g0 < hi ∧ g1 < hi
theorem Rn.kept {m : Pm} {w w' : World} {lo hi R T S g0 g1 g2 g3 : Nat} {kc : Array Value} {v0 vm : Value} (h : Rn m w lo hi R T S g0 g1 g2 g3 kc v0 vm) (hb : Below w.heap.size w w') : Rn m w' lo hi R T S g0 g1 g2 g3 kc v0 vm :=
  ⟨h.blk.kept hb, h.r0.kept hb, h.r1.kept hb, h.ne, h.sy.kept hb, h.kc, h.le, h.lt⟩
theorem Rn.of {m : Pm} {rm : Option Nat} {w5 : World} {lo B4 R T S bm g0 g1 g2 g3 : Nat} {kc : Array Value} (hs : Sy w5 T S 1 m.n kc m.root m.rk) (hk : Kc m kc) (hn : New rm w5 B4 R T bm g0 g1 g2 g3 m.c m.c 0 0) (h4 : lo ≤ B4) (hS : lo ≤ S) (hT : lo ≤ T) :
    Rn m w5 lo w5.heap.size R T S g0 g1 g2 g3 kc (.map rm) (.map (some bm)) := by
  have h1 := hn.le
  have h2 := hs.lt
  exact ⟨hn.blk, hn.r0, hn.r1, hn.ne.1, hs, hk, by omega, hn.blk.lt, h2.1, h2.2, hn.r0.lt, hn.r1.lt⟩
theorem Rn.st {m : Pm} {w : World} {lo hi R T S g0 g1 g2 g3 A X : Nat} {kc : Array Value} {v0 vm : Value} (h : Rn m w lo hi R T S g0 g1 g2 g3 kc v0 vm) (h0 : 0 < lo) (hiv : Iv w) (hA : Blk w A 43 #[.slice none 0 0]) (hlA : lo ≤ A) (hX : Blk w X 24 #[.int .u32 m.st]) :
    St m w lo R T S A X g0 g1 kc v0 (.slice (some ⟨g2, 0, none⟩) 0 0) (.slice (some ⟨g3, 0, none⟩) 0 0) vm (.slice none 0 0) [] :=
  ⟨h.blk, SlAt.made 0 h.r0 h.le.2.2.2.1, SlAt.made 1 h.r1 h.le.2.2.2.2, h.ne, h.sy, hiv, hA, World.ownsRow_nil _ _ _ _, hX, h0, h.le.2.2.1, h.le.2.1, hlA, h.le.1⟩
theorem St.r4 {m : Pm} {w : World} {B R T S A X g0 g1 g2 g3 : Nat} {kc : Array Value} {v0 vm v : Value} {L : List Nat} (h : St m w B R T S A X g0 g1 kc v0 (.slice (some ⟨g2, 0, none⟩) 0 0) (.slice (some ⟨g3, 0, none⟩) 0 0) vm v L) : R4 m w B R g0 g1 g2 g3 L :=
  ⟨⟨_, _, _, h.blk⟩, h.s0, h.s1⟩
theorem Kp.iv {w w' : World} {L : Nat → Prop} (h : Kp w w' L) (hi : Iv w) (h0 : ¬ L 0) : Iv w' := by
  have hl : 0 < w.heap.size := World.block_lt_of_cell? w _ hi.1
  have e := h.block 0 hl h0
  exact ⟨(World.cell?_of_block (w := w) e).trans hi.1, (World.cell?_of_block (w := w) e).trans hi.2⟩
theorem Kp.sl {m : Pm} {w w' : World} {L : Nat → Prop} {B g : Nat} {a : Int} {l : List Nat} (h : Kp w w' L) (hs : SlAt m w B g a l) (hn : ¬ L g) : SlAt m w' B g a l := by
  obtain ⟨cur, h1, h2, h3⟩ := hs
  exact ⟨cur, h1, h.blk h2 hn, h3⟩
/-- a renamer that is not touched -/
theorem Rn.kp {m : Pm} {w w' : World} {L : Nat → Prop} {lo hi R T S g0 g1 g2 g3 : Nat} {kc : Array Value} {v0 vm : Value} (h : Rn m w lo hi R T S g0 g1 g2 g3 kc v0 vm) (hk : Kp w w' L) (hn : ∀ b, lo ≤ b → b < hi → ¬ L b) : Rn m w' lo hi R T S g0 g1 g2 g3 kc v0 vm := by
  have l := h.le
  have u := h.lt
  obtain ⟨ts, cs, q1, q2, q3, q4, q5, q6⟩ := h.sy.out
  exact ⟨hk.blk h.blk (hn _ l.1 u.1), hk.blk h.r0 (hn _ l.2.2.2.1 u.2.2.2.1), hk.blk h.r1 (hn _ l.2.2.2.2 u.2.2.2.2), h.ne, ⟨ts, cs, hk.blk q1 (hn _ l.2.1 u.2.1), q2, q3, q4, hk.blk q5 (hn _ l.2.2.1 u.2.2.1), q6⟩, h.kc, h.le, h.lt⟩
/-- a list as it lies: the variable and the row's cells -/
structure Tp (m : Pm) (w : World) (A : Nat) (a : Option Addr) (cap : Nat) (L : List Nat) : Prop where
  var : Blk w A 43 #[.slice a (m.es L).length cap]
  row : 0 < (m.es L).length → ∃ g cur, a = some ⟨g, 0, none⟩ ∧ Blk w g 91 cur ∧ ∀ j, j < (m.es L).length * 4 → cur[j]? = (m.fl L)[j]?
theorem St.tp {m : Pm} {w : World} {B R T S A X g0 g1 : Nat} {kc : Array Value} {v0 v2 v3 vm v : Value} {L : List Nat} (h : St m w B R T S A X g0 g1 kc v0 v2 v3 vm v L) : ∃ (a : Option Addr) (cap : Nat), v = .slice a (m.es L).length cap ∧ Tp m w A a cap L ∧ (0 < (m.es L).length → ∃ g, a = some ⟨g, 0, none⟩ ∧ v.ownBlock = some g) := by
  have hv := h.var
  obtain ⟨hl, h | ⟨g, cap, cur, hv', _, hh, _, _, hcs, htk⟩⟩ := h.own
  · obtain ⟨e1, e2⟩ := h
    have hk : (m.es L).length = 0 := by
      have := m.fl_len L
      rw [e2] at this
      simp at this
      omega
    rw [e1] at hv
    exact ⟨none, 0, by rw [e1, hk], ⟨by rw [hk]; exact hv, fun h0 => by omega⟩, fun h0 => by omega⟩
  · rw [hv'] at hv
    exact ⟨_, cap, hv', ⟨hv, fun h0 => ⟨g, cur, rfl, hh, fun j hj => by rw [← htk, List.getElem?_take_of_lt hj, Array.getElem?_toList]⟩⟩, fun _ => ⟨g, rfl, by rw [hv']; rfl⟩⟩
theorem Tp.kept {m : Pm} {w w' : World} {A : Nat} {a : Option Addr} {cap : Nat} {L : List Nat} (h : Tp m w A a cap L) (hb : Below w.heap.size w w') : Tp m w' A a cap L :=
  ⟨h.var.kept hb, fun h0 => by obtain ⟨g, cur, e, hc, hr⟩ := h.row h0; exact ⟨g, cur, e, hc.kept hb, hr⟩⟩
theorem Tp.kp {m : Pm} {w w' : World} {K : Nat → Prop} {A : Nat} {a : Option Addr} {cap : Nat} {L : List Nat} (h : Tp m w A a cap L) (hk : Kp w w' K) (hA : ¬ K A) (hg : ∀ g, 0 < (m.es L).length → a = some ⟨g, 0, none⟩ → ¬ K g) : Tp m w' A a cap L :=
  ⟨hk.blk h.var hA, fun h0 => by obtain ⟨g, cur, e, hc, hr⟩ := h.row h0; exact ⟨g, cur, e, hk.blk hc (hg g h0 e), hr⟩⟩
theorem R4.kept {m : Pm} {w w' : World} {B R g0 g1 g2 g3 : Nat} {L : List Nat} (h : R4 m w B R g0 g1 g2 g3 L) (hb : Below w.heap.size w w') : R4 m w' B R g0 g1 g2 g3 L := by
  obtain ⟨v0, vm, vT, hc⟩ := h.blk
  exact ⟨⟨v0, vm, vT, hc.kept hb⟩, h.s0.kept hb, h.s1.kept hb⟩
theorem R4.kp {m : Pm} {w w' : World} {K : Nat → Prop} {B R g0 g1 g2 g3 : Nat} {L : List Nat} (h : R4 m w B R g0 g1 g2 g3 L) (hk : Kp w w' K) (hR : ¬ K R) (h0 : ¬ K g0) (h1 : ¬ K g1) : R4 m w' B R g0 g1 g2 g3 L := by
  obtain ⟨v0, vm, vT, hc⟩ := h.blk
  exact ⟨⟨v0, vm, vT, hk.blk hc hR⟩, hk.sl h.s0 h0, hk.sl h.s1 h1⟩
/-- the loop of the single calls -/
structure LB (m : Pm) (w wx : World) (lo W8 Ra ga0 ga1 ga2 ga3 A Rb Tb Sb Bk Xb gb0 gb1 gb2 gb3 : Nat) (kcb : Array Value) (v0b vmb : Value) (aA : Option Addr) (capA : Nat) (LA : List Nat) (i : Nat) : Prop where
  st : ∃ vB, St m wx lo Rb Tb Sb Bk Xb gb0 gb1 kcb v0b (.slice (some ⟨gb2, 0, none⟩) 0 0) (.slice (some ⟨gb3, 0, none⟩) 0 0) vmb vB (List.range i) ∧ ∀ g, vB.ownBlock = some g → W8 ≤ g
  r4 : R4 m wx lo Ra ga0 ga1 ga2 ga3 LA
  tp : Tp m wx A aA capA LA
  bl : Below w.heap.size w wx
  le : W8 ≤ wx.heap.size ∧ w.heap.size ≤ lo
  far : Ra ≠ Sb ∧ Ra ≠ gb0 ∧ Ra ≠ gb1 ∧ Ra ≠ Bk ∧ Ra < W8 ∧ ga0 ≠ Sb ∧ ga0 ≠ gb0 ∧ ga0 ≠ gb1 ∧ ga0 ≠ Bk ∧ ga0 < W8 ∧ ga1 ≠ Sb ∧ ga1 ≠ gb0 ∧ ga1 ≠ gb1 ∧ ga1 ≠ Bk ∧ ga1 < W8 ∧ A ≠ Sb ∧ A ≠ gb0 ∧ A ≠ gb1 ∧ A ≠ Bk ∧ A < W8 ∧ lo ≤ Sb ∧ lo ≤ gb0 ∧ lo ≤ gb1 ∧ lo ≤ Bk ∧ lo ≤ W8
  own : ∀ g, 0 < (m.es LA).length → aA = some ⟨g, 0, none⟩ → g ≠ Sb ∧ g ≠ gb0 ∧ g ≠ gb1 ∧ g ≠ Bk ∧ g < W8
theorem LB.grow {m : Pm} {w wx wy : World} {lo W8 Ra ga0 ga1 ga2 ga3 A Rb Tb Sb Bk Xb gb0 gb1 gb2 gb3 : Nat} {kcb : Array Value} {v0b vmb : Value} {aA : Option Addr} {capA : Nat} {LA : List Nat} {i : Nat}
    (h : LB m w wx lo W8 Ra ga0 ga1 ga2 ga3 A Rb Tb Sb Bk Xb gb0 gb1 gb2 gb3 kcb v0b vmb aA capA LA i) (hg : wx.grownBy wy none) : LB m w wy lo W8 Ra ga0 ga1 ga2 ga3 A Rb Tb Sb Bk Xb gb0 gb1 gb2 gb3 kcb v0b vmb aA capA LA i := by
  have hb : Below wx.heap.size wx wy := (Below.refl _ _).grown hg (Nat.le_refl _) (fun k hk => by cases hk)
  obtain ⟨vB, h1, h2⟩ := h.st
  exact ⟨⟨vB, h1.grow hg, h2⟩, h.r4.kept hb, h.tp.kept hb, h.bl.trans (hb.mono h.bl.size), ⟨Nat.le_trans h.le.1 hb.size, h.le.2⟩, h.far, h.own⟩
theorem LB.step {m : Pm} {w wx wy : World} {lo W8 Ra ga0 ga1 ga2 ga3 A Rb Tb Sb Bk Xb gb0 gb1 gb2 gb3 : Nat} {kcb : Array Value} {v0b vmb : Value} {aA : Option Addr} {capA : Nat} {LA : List Nat} {i : Nat} {vB : Value} {e : Ending}
    (h : LB m w wx lo W8 Ra ga0 ga1 ga2 ga3 A Rb Tb Sb Bk Xb gb0 gb1 gb2 gb3 kcb v0b vmb aA capA LA i) (hv : ∀ g, vB.ownBlock = some g → W8 ≤ g)
    (ha : AcP m wx lo Rb Tb Sb Bk Xb gb0 gb1 kcb v0b (.slice (some ⟨gb2, 0, none⟩) 0 0) (.slice (some ⟨gb3, 0, none⟩) 0 0) vmb vB (List.range i) i e wy) :
    e = .returned (.tuple #[]) ∧ Below w.heap.size wx wy ∧ LB m w wy lo W8 Ra ga0 ga1 ga2 ga3 A Rb Tb Sb Bk Xb gb0 gb1 gb2 gb3 kcb v0b vmb aA capA LA (i + 1) := by
  obtain ⟨he, hk, v', hv', hst⟩ := ha
  have far := h.far
  have l1 := h.le.1
  have l2 := h.le.2
  have nl : ∀ b, b ≠ Sb → b ≠ gb0 → b ≠ gb1 → b ≠ Bk → b < W8 → ¬ LL Sb gb0 gb1 Bk vB b := fun b q1 q2 q3 q4 q5 hl => by
    rcases hl with e | e | e | e | e
    · exact q1 e
    · exact q2 e
    · exact q3 e
    · exact q4 e
    · have := hv b e; omega
  have hbw : Below w.heap.size wx wy := ⟨hk.os, hk.tape, hk.output, hk.size, fun b hb => hk.block b (Nat.lt_of_lt_of_le hb h.bl.size) (nl b (by omega) (by omega) (by omega) (by omega) (by omega))⟩
  refine ⟨he, hbw, ⟨v', by rw [List.range_succ]; exact hst, fun g hg => ?_⟩, h.r4.kp hk (nl _ far.1 far.2.1 far.2.2.1 far.2.2.2.1 far.2.2.2.2.1) (nl _ (by omega) (by omega) (by omega) (by omega) (by omega)) (nl _ (by omega) (by omega) (by omega) (by omega) (by omega)), h.tp.kp hk (nl _ (by omega) (by omega) (by omega) (by omega) (by omega)) (fun g h0 e => by have q := h.own g h0 e; exact nl g q.1 q.2.1 q.2.2.1 q.2.2.2.1 q.2.2.2.2), h.bl.trans hbw, ⟨Nat.le_trans h.le.1 hk.size, h.le.2⟩, h.far, h.own⟩
  rcases hv' with e | e | ⟨g', e, hge⟩
  · subst e; exact hv g hg
  · rw [e] at hg; exact hv g hg
  · rw [e] at hg; cases hg; omega
/-- the listed entries, as the sort reads them -/
def Pm.en (m : Pm) (i : Nat) : En := ⟨(m.root i : Int), m.us i, m.st, 0⟩
def Pm.enF (m : Pm) (l : List Nat) (x : Nat) : En := m.en (l.getD x 0)
theorem enF_sg (m : Pm) (l : List Nat) : sg (m.enF l) 0 l.length = l.map m.en := by
  unfold sg Pm.enF
  apply List.ext_getElem?
  intro i
  simp only [Nat.sub_zero, List.getElem?_map]
  by_cases h : i < l.length
  · rw [List.getElem?_range' (by exact h), List.getElem?_eq_getElem h]
    simp [List.getD, h]
  · rw [List.getElem?_eq_none (by simp; omega), List.getElem?_eq_none (by omega)]
    rfl
theorem fl_at (m : Pm) : ∀ (l : List Nat) (q : Nat), q < l.length → ∀ j, j < 4 → (l.flatMap m.row)[q * 4 + j]? = (m.row (l.getD q 0))[j]?
  | [], q, h, _, _ => by simp at h
  | t :: l, 0, h, j, hj => by
    rw [List.flatMap_cons, List.getElem?_append_left (by simp [Pm.row]; omega)]
    simp [List.getD]
  | t :: l, q + 1, h, j, hj => by
    rw [List.flatMap_cons, List.getElem?_append_right (by simp [Pm.row]; omega)]
    have := fl_at m l q (by simpa using h) j hj
    rw [show (q + 1) * 4 + j - (m.row t).length = q * 4 + j by simp [Pm.row]; omega, this]
    simp [List.getD]
theorem Tp.ei {m : Pm} {w : World} {A : Nat} {a : Option Addr} {cap : Nat} {L : List Nat} (h : Tp m w A a cap L) : Ei w a (m.es L).length (m.enF (m.es L)) := by
  intro h0
  obtain ⟨g, cur, e, hc, hr⟩ := h.row h0
  refine ⟨g, e, hc.lt, fun i hi => ?_⟩
  have q := fun j (hj : j < 4) => (hr (i * 4 + j) (by omega)).trans (fl_at m (m.es L) i hi j hj)
  have q0 := q 0 (by omega)
  have q1 := q 1 (by omega)
  have q2 := q 2 (by omega)
  have q3 := q 3 (by omega)
  rw [Nat.add_zero] at q0
  exact ⟨by rw [hc.cell, q0]; rfl, by rw [hc.cell, q1]; rfl, by rw [hc.cell, q2]; rfl, by rw [hc.cell, q3]; rfl⟩
end Go.Proofs.YtmpfgkiljfoicaaDoor
