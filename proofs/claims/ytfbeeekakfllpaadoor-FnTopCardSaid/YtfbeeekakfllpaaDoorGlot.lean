/-
  sourcemap.GenerateLineOffsetTables. No statement of the seat is proved here.
-/
import Derived.Test.YtfbeeekakfllpaaDoorRows
import Derived.Test.YtfbeeekakfllpaaDoorLom
import Derived.Test.YtfbeeekakfllpaaDoorPq
import Derived.Test.YtfbeeekakfllpaaDoorReg
import Derived.Test.YtfbeeekakfllpaaDoorIter
import Derived.WalkSpells
import Derived.WalkLawsBesides
import Derived.LoopTactic
import Derived.RegionTactic
import Derived.ChangeAlike
import Derived.BigQuiet
import Derived.Deep.QuietTactic
import Derived.Deep.CutBlock
import Derived.Deep.DeepCutAuto
import Derived.Deep.LoopGhost
import Derived.Deep.Light
import Derived.Laws.RangeAny
namespace Go.Proofs.YtfbeeekakfllpaaDoor
open Go.RowKit
set_option linter.unusedVariables false
theorem info34 : (Tryd.prog.info? 87).map (fun i => (i.zero, i.size, i.bytes)) = some (some (.agg #[.slice none 0 0, .int .i32 0, .int .i32 0]), 3, 32) := by kernel_rfl
theorem info21 : (Tryd.prog.info? 21).map (fun i => (i.zero, i.size, i.bytes)) = some (some (.int .i32 0), 1, 4) := by kernel_rfl
def Glot (s : ByteArray) (w : World) (e : Ending) (w' : World) : Prop := ∃ (v : Value) (ts : List Tb), e = .returned v ∧ OwnB w' w.heap.size v ts ∧ Tabs s w' w.heap.size w'.heap.size ts (T s s.size ++ [(LS s s.size, s.size)]) ∧ Below w.heap.size w w'
/-- what the loop knows at the rune start i: B the frame, r the iterator's block; older column blocks lie below B2, the current one at B2 or above -/
def GR (s : ByteArray) (w : World) (B r k : Nat) (v5 v6 v7 v8 v9 v10 : Value) (wr : World) : Prop := ∃ (i f cbo lbo B2 : Nat) (c : Option (List Int)) (ts : List Tb),
  It wr r s i ∧ Bd s i ∧ s.size - i ≤ k ∧ v6 = .int .i32 f ∧ v7 = .int .i64 lbo ∧ v8 = .int .i64 cbo ∧ v9 = .int .i32 (U s i - U s (LS s i) : Nat) ∧ (LS s i < i → lbo = LS s i) ∧ lbo ≤ s.size
  ∧ CS s i (LS s i) c f cbo ∧ Sl wr B2 v5 c ∧ OwnB wr B v10 ts ∧ Tabs s wr B B2 ts (T s i) ∧ r < B2 ∧ B2 ≤ wr.heap.size ∧ Below B w wr ∧ (∀ g, v10.ownBlock = some g → g ≠ r ∧ g < B2) ∧ ∀ k, (hk : k < ts.length) → (ts[k]'hk).v.ownBlock ≠ some r
/-- behind 'Start the mapping': the columns are nil (and the round's rune is ASCII), or a slice that is to be filled up to i -/
def GM (s : ByteArray) (i B2 : Nat) (w2 : World) (v5 v6 v8 : Value) (wc : World) : Prop := ∃ f cbo : Nat, v6 = .int .i32 f ∧ v8 = .int .i64 cbo ∧ Below w2.heap.size w2 wc ∧
  ((v5 = .slice none 0 0 ∧ CM s i (LS s i) none f cbo) ∨ ∃ zs ao n cap, v5 = .slice ao n cap ∧ Own .i32 21 wc B2 v5 zs ∧ (∃ g, v5.ownBlock = some g) ∧ CI s i (LS s i) f cbo zs)
theorem OwnB.under {w w' : World} {B B2 : Nat} {v : Value} {ts : List Tb} (h : OwnB w B v ts) (hb : Below B2 w w') (hv : ∀ g, v.ownBlock = some g → g < B2) : OwnB w' B v ts := by
  obtain ⟨h1, h2⟩ := h
  refine ⟨h1, h2.imp id ?_⟩
  rintro ⟨g, cap, cur, rfl, hB, hh, hr⟩
  exact ⟨g, cap, cur, rfl, hB, below_blk hb hh (hv g rfl), hr⟩
theorem Own.under {k : IntKind} {e : TypeId} {w w' : World} {B B2 : Nat} {v : Value} {zs : List Int} (h : Own k e w B v zs) (hb : Below B2 w w') (hv : ∀ g, v.ownBlock = some g → g < B2) : Own k e w' B v zs := by
  obtain ⟨h1, h2⟩ := h
  refine ⟨h1, h2.imp id ?_⟩
  rintro ⟨g, cap, cur, rfl, hB, hh, hr⟩
  exact ⟨g, cap, cur, rfl, hB, below_blk hb hh (hv g rfl), hr⟩
theorem Sl.under {w w' : World} {B B2 : Nat} {v : Value} {c : Option (List Int)} (h : Sl w B v c) (hb : Below B2 w w') (hv : ∀ g, v.ownBlock = some g → g < B2) : Sl w' B v c := by
  rcases h with h | ⟨zs, h1, h2, h3⟩
  · exact .inl h
  · exact .inr ⟨zs, h1, h2.under hb hv, h3⟩
theorem Sl.lt {w : World} {B : Nat} {v : Value} {c : Option (List Int)} (h : Sl w B v c) : ∀ g, v.ownBlock = some g → B ≤ g ∧ g < w.heap.size := by
  rcases h with ⟨_, rfl⟩ | ⟨zs, h1, h2, h3⟩
  · intro g hg; cases hg
  · exact h2.lt
theorem Sl.mono {w : World} {B B' : Nat} {v : Value} {c : Option (List Int)} (h : Sl w B v c) (hB : B' ≤ B) : Sl w B' v c := by
  rcases h with h | ⟨zs, h1, h2, h3⟩
  · exact .inl h
  · exact .inr ⟨zs, h1, h2.mono hB, h3⟩
theorem Tabs.under {s : ByteArray} {w w' : World} {B B2 : Nat} {ts : List Tb} {ls : List (Nat × Nat)} (h : Tabs s w B B2 ts ls) (hb : Below B2 w w') : Tabs s w' B B2 ts ls := by
  refine ⟨h.1, fun k hk hk' => ?_⟩
  obtain ⟨h1, c, h2, h3, h4⟩ := h.2 k hk hk'
  exact ⟨h1, c, h2.under hb h4, h3, h4⟩
/-- the inner loop: the bytes up to i get their columns; wc the world ahead of it -/
def LI (s : ByteArray) (i ls f B2 : Nat) (wc : World) (k : Nat) (v5 v8 : Value) (wr : World) : Prop := ∃ (zs : List Int) (cb : Nat), v8 = .int .i64 cb ∧ Own .i32 21 wr B2 v5 zs ∧ (∃ g, v5.ownBlock = some g) ∧ CI s i ls f cb zs ∧ Below B2 wc wr ∧ i - ls + 1 - cb ≤ k
/-- behind it -/
def GE (s : ByteArray) (i ls f B2 : Nat) (wc : World) (v5 v8 : Value) (w3 : World) : Prop := ∃ (c : Option (List Int)) (cbo : Nat), v8 = .int .i64 cbo ∧ Sl w3 B2 v5 c ∧ CM s i ls c f cbo ∧ Below B2 wc w3
theorem own_some {w : World} {B : Nat} {v : Value} {zs : List Int} (h : Own .i32 21 w B v zs) (hn : v ≠ .slice none 0 0) : ∃ g, v.ownBlock = some g := by
  obtain ⟨ao, cap, rfl, _, _, h⟩ := h.form
  rcases h with ⟨rfl, rfl, rfl⟩ | ⟨g, rfl, _⟩
  · exact absurd rfl hn
  · exact ⟨g, rfl⟩
theorem CI.len {s : ByteArray} {i ls f k : Nat} {zs : List Int} (h : CI s i ls f k zs) : zs.length ≤ i + 1 := by
  obtain ⟨h1, h2, h3, h4, rfl, h6⟩ := h
  rw [cols_length]; omega
theorem Sl.form {w : World} {B : Nat} {v : Value} {c : Option (List Int)} (h : Sl w B v c) : ∃ ao n cap, v = .slice ao n cap := by
  rcases h with ⟨_, rfl⟩ | ⟨zs, h1, h2, h3⟩
  · exact ⟨_, _, _, rfl⟩
  · obtain ⟨ao, cap, rfl, _⟩ := h2.form; exact ⟨_, _, _, rfl⟩
/-- what stands beside the columns while a round runs -/
structure Kp (s : ByteArray) (w : World) (B r i p B2 : Nat) (v10 : Value) (ts : List Tb) (wc : World) : Prop where
  it : It wc r s p
  ob : OwnB wc B v10 ts
  tb : Tabs s wc B B2 ts (T s i)
  bel : Below B w wc
  nr : ∀ g, v10.ownBlock = some g → g ≠ r ∧ g < B2
  tr : ∀ k, (hk : k < ts.length) → (ts[k]'hk).v.ownBlock ≠ some r
  rb : r < B2
  b2 : B2 ≤ wc.heap.size
  br : B ≤ r
theorem Kp.under {s : ByteArray} {w w2 wc : World} {B r i p B2 : Nat} {v10 : Value} {ts : List Tb} (k : Kp s w B r i p B2 v10 ts w2) (hb : Below B2 w2 wc) : Kp s w B r i p B2 v10 ts wc := by
  have hz := hb.size
  have h1 := k.b2
  have h2 := k.br
  have h3 := k.rb
  exact ⟨below_blk hb k.it k.rb, k.ob.under hb (fun g hg => (k.nr g hg).2), k.tb.under hb, k.bel.trans (hb.mono (by omega)), k.nr, k.tr, k.rb, by omega, k.br⟩
theorem gr_line {s : ByteArray} {w wc w4 : World} {B r i B2 f cbo nn cap : Nat} {u10 v' : Value} {ts : List Tb} {ao : Option Addr} {c : Option (List Int)} {o : Obj} (k : Kp s w B r i (i + wd s i) B2 u10 ts wc) (hbd : Bd s i) (hi : i < s.size) (hm : CM s i (LS s i) c f cbo)
    (hsl : Sl wc B2 (.slice ao nn cap) c) (ht : tm s i = true) (ho : OwnB w4 B v' (ts ++ [⟨ao, nn, cap, f, LS s i⟩])) (hg : (wc.alloc o).grownBy w4 u10.ownBlock) (hv : v'.ownBlock = u10.ownBlock ∨ v'.ownBlock = some (wc.alloc o).heap.size) :
    GR s w B r (s.size - (i + wd s i)) (.slice none 0 0) (.int .i32 0) (.int .i64 (LS s i : Nat)) (.int .i64 0) (.int .i32 0) v' w4 := by
  have hw := wd_pos s i hi
  obtain ⟨a1, a2, a3, a4⟩ := adv s i hbd.at_ hi (wd s i) hw (Nat.le_refl _)
  rw [if_pos ht] at a3 a4
  have hz := hg.size
  have hza : (wc.alloc o).heap.size = wc.heap.size + 1 := by simp
  have h1 := k.b2
  have h2 := k.br
  have h3 := k.rb
  have h4 := hbd.ls
  have hga : wc.grownBy (wc.alloc o) u10.ownBlock := World.grownBy_alloc wc o _
  have hgw : wc.grownBy w4 u10.ownBlock := gb_trans hga hg
  have hslb := hsl.lt
  have hne : (Value.slice ao nn cap).ownBlock = none ∨ (Value.slice ao nn cap).ownBlock ≠ u10.ownBlock := by
    rcases hx : (Value.slice ao nn cap).ownBlock with _ | x
    · exact .inl rfl
    · refine .inr (fun e => ?_)
      have := (hslb x hx).1
      have := (k.nr x e.symm).2
      omega
  refine ⟨i + wd s i, 0, 0, LS s i, w4.heap.size, none, ts ++ [⟨ao, nn, cap, f, LS s i⟩], k.it.gb hgw (fun e => (k.nr r e.symm).1 rfl), hbd.next hi, Nat.le_refl _, rfl, rfl, rfl, ?_, ?_, by omega, ?_, .inl ⟨rfl, rfl⟩, ho, ?_, by omega, Nat.le_refl _, ?_, ?_, ?_⟩
  · rw [a3, Nat.sub_self]; rfl
  · rw [a3]; intro c; omega
  · rw [a3]; exact CS.new s _
  · rw [a4]
    refine Tabs.snoc (Tabs.mono (k.tb.gb hgw fun j hj => ?_) (by omega)) _ _ _ c rfl ((hsl.gb hgw hne).mono (by omega)) hm.entry (fun g hg => ?_)
    · rcases hx : (ts[j]'hj).v.ownBlock with _ | x
      · exact .inl rfl
      · refine .inr (fun e => ?_)
        have hap := k.tb.2 j hj (by rw [← k.tb.1]; exact hj)
        obtain ⟨_, c', hs', _, _⟩ := hap
        rcases hs' with ⟨_, hs'⟩ | ⟨zs, _, hs', _⟩
        · rw [hs'] at hx; cases hx
        · exact apart k.ob hs' x e.symm hx
    · have := (hslb g hg).2; omega
  · refine k.bel.grown hgw (by have := k.bel.size; have := hsl.lt; omega) (fun g hg => (k.ob.lt g hg).1)
  · intro g hg
    rcases hv with e | e
    · rw [e] at hg; have := k.nr g hg; exact ⟨this.1, by omega⟩
    · rw [e] at hg; cases hg; refine ⟨by omega, ?_⟩
      exact (ho.lt _ e).2
  · intro j hj
    rw [List.length_append] at hj
    rcases (show j < ts.length ∨ j = ts.length by simp at hj; omega) with c1 | c1
    · rw [List.getElem_append_left c1]; exact k.tr j c1
    · subst c1
      rw [List.getElem_append_right (Nat.le_refl _)]
      simp only [Nat.sub_self, List.getElem_cons_zero]
      intro e
      have := (hslb r e).1
      omega
theorem gr_next {s : ByteArray} {w wc : World} {B r i B2 f cbo col : Nat} {u5 u10 : Value} {ts : List Tb} {c : Option (List Int)} (k : Kp s w B r i (i + wd s i) B2 u10 ts wc) (hbd : Bd s i) (hi : i < s.size) (hm : CM s i (LS s i) c f cbo)
    (hsl : Sl wc B2 u5 c) (ht : tm s i = false) (hc : U s i - U s (LS s i) = col + 0) (v9 : Value) (h9 : v9 = .int .i32 (col + un s i : Nat)) :
    GR s w B r (s.size - (i + wd s i)) u5 (.int .i32 f) (.int .i64 (LS s i : Nat)) (.int .i64 cbo) v9 u10 wc := by
  have hw := wd_pos s i hi
  obtain ⟨a1, a2, a3, a4⟩ := adv s i hbd.at_ hi (wd s i) hw (Nat.le_refl _)
  rw [if_neg (by rw [ht]; simp)] at a3 a4
  have h4 := hbd.ls
  have hU := U_mono' s h4
  refine ⟨i + wd s i, f, cbo, LS s i, B2, c, ts, k.it, hbd.next hi, Nat.le_refl _, rfl, rfl, rfl, ?_, ?_, by omega, ?_, hsl, k.ob, ?_, k.rb, k.b2, k.bel, k.nr, k.tr⟩
  · rw [h9, a3, a2]; congr 2; omega
  · rw [a3]; intro _; rfl
  · rw [a3]; exact hm.next hbd hi h4
  · rw [a4]; exact k.tb
theorem gl_end {s : ByteArray} {w wc w4 : World} {r p B2 f nn cap : Nat} {u10 v' : Value} {ts : List Tb} {ao : Option Addr} {c : Option (List Int)} {o : Obj} (k : Kp s w w.heap.size r s.size p B2 u10 ts wc) (he : Entry s (LS s s.size) s.size c f)
    (hsl : Sl wc B2 (.slice ao nn cap) c) (ho : OwnB w4 w.heap.size v' (ts ++ [⟨ao, nn, cap, f, LS s s.size⟩])) (hg : (wc.alloc o).grownBy w4 u10.ownBlock) : Glot s w (.returned v') w4 := by
  have hz := hg.size
  have hza : (wc.alloc o).heap.size = wc.heap.size + 1 := by simp
  have h1 := k.b2
  have h2 := k.br
  have h3 := k.rb
  have hga : wc.grownBy (wc.alloc o) u10.ownBlock := World.grownBy_alloc wc o _
  have hgw : wc.grownBy w4 u10.ownBlock := gb_trans hga hg
  have hslb := hsl.lt
  have hne : (Value.slice ao nn cap).ownBlock = none ∨ (Value.slice ao nn cap).ownBlock ≠ u10.ownBlock := by
    rcases hx : (Value.slice ao nn cap).ownBlock with _ | x
    · exact .inl rfl
    · refine .inr (fun e => ?_)
      have := (hslb x hx).1
      have := (k.nr x e.symm).2
      omega
  refine ⟨v', ts ++ [⟨ao, nn, cap, f, LS s s.size⟩], rfl, ho, ?_, k.bel.grown hgw (by have := k.bel.size; omega) (fun g hg => (k.ob.lt g hg).1)⟩
  refine Tabs.snoc (Tabs.mono (k.tb.gb hgw fun j hj => ?_) (by omega)) _ _ _ c rfl ((hsl.gb hgw hne).mono (by omega)) he (fun g hg => ?_)
  · rcases hx : (ts[j]'hj).v.ownBlock with _ | x
    · exact .inl rfl
    · refine .inr (fun e => ?_)
      have hap := k.tb.2 j hj (by rw [← k.tb.1]; exact hj)
      obtain ⟨_, c', hs', _, _⟩ := hap
      rcases hs' with ⟨_, hs'⟩ | ⟨zs, _, hs', _⟩
      · rw [hs'] at hx; cases hx
      · exact apart k.ob hs' x e.symm hx
  · have := (hslb g hg).2; omega
/-- behind the last columns -/
def GF (s : ByteArray) (f B2 : Nat) (wr : World) (v5 : Value) (w3 : World) : Prop := ∃ (c : Option (List Int)), Sl w3 B2 v5 c ∧ Entry s (LS s s.size) s.size c f ∧ Below B2 wr w3
set_option maxRecDepth 100000 in
set_option maxHeartbeats 4000000 in
theorem glot_any (s : ByteArray) (n : Nat) (w : World) (hz : s.size ≤ 2097152) (hn : n ≤ 65536) : Calls Tryd.prog 12 #[.string s, .int .i32 n] w (Glot s w) := by
  obtain ⟨i0, hi, hz0, hz1, hz2⟩ := info_parts info34
  go_enter Tryd.func12, Tryd.ntmps12
  go_wp2_with (at_make; refine wpList_make_own w rfl _ _ 57 rfl w.heap.size 87 i0 _ 3 Tryd.underlying57 hi hz0 hz1 .i64 .i32 n n rfl rfl rfl (by rw [hz2]; omega) (by unfold maxLen; omega) (Nat.le_refl _) ?_; intro w1 hO1 hg1)
  have hz1 := hg1.size
  have H0 := Lib.hid (And.intro hO1 hg1)
  clear hO1 hg1
  go_loopg [5, 6, 7, 8, 9, 10] s.size (fun k a b c d e f wr => GR s w w.heap.size w1.heap.size k a b c d e f wr)
  case atStart =>
    have hb1 : Below w.heap.size w w1 := (Below.refl _ w).grown H0.out.2 (Nat.le_refl _) (fun k h => by cases h)
    have ho : OwnB (w1.iter s 0) w.heap.size (.slice (some ⟨w.heap.size, 0, none⟩) 0 n) [] := World.ownsRow.alloc H0.out.1 _
    have hlt := World.ownsRow.lt H0.out.1 w.heap.size rfl
    refine ⟨0, 0, 0, 0, (w1.iter s 0).heap.size, none, [], It.new w1 s, Bd.zero s, Nat.le_refl _, rfl, rfl, rfl, rfl, fun h => absurd h (Nat.lt_irrefl _), Nat.zero_le _, CS.new s 0, .inl ⟨rfl, rfl⟩, ho, Tabs.nil _ _ _ _, by simp [World.iter], Nat.le_refl _, hb1.alloc hz1 _, ?_, fun k hk => absurd hk (by simp)⟩
    intro g hg
    simp [Value.ownBlock] at hg
    subst hg
    have h2 := hlt.2
    exact ⟨by omega, by simp [World.iter]; omega⟩
  case round =>
    obtain ⟨i, f, cbo, lbo, B2, c, ts, hit, hbd, hk, rfl, rfl, rfl, rfl, hlbo, hlz, hcs, hsl, hob, htb, hr2, hB2, hbel, hnr, htr⟩ := hrel
    have hiz := hbd.le
    have HG := Lib.hid (And.intro hit (And.intro hbd (And.intro hcs (And.intro hsl (And.intro hob (And.intro htb (And.intro hbel (And.intro hnr htr))))))))
    clear hit hbd hcs hsl hob htb hbel hnr htr
    rcases (show i = s.size ∨ i < s.size by omega) with rfl | hlt
    · have hU := U_le s s.size
      obtain ⟨col, hcol⟩ : ∃ col, U s s.size - U s (LS s s.size) = col := ⟨_, rfl⟩
      rw [hcol]
      have hcb : col ≤ 4194304 := by omega
      have HI := Lib.hid hcol
      clear hcol hU
      go_upto_region 36 with (refine wpList_next_end rfl _ rfl w1.heap.size s s.size rfl HG.out.1 (Nat.lt_irrefl _) ?_)
      go_upto_if 91 with fail
      go_cut [7] (fun v wc => v = .int .i64 (LS s s.size : Nat) ∧ wc = wr)
      case first =>
        by_cases hls : LS s s.size = s.size
        · have hc0 : col = 0 := by rw [← HI.out, hls, Nat.sub_self]
          subst hc0
          have HL := Lib.hid hls
          clear hls
          go_wp2_with fail
          go_meet
          exact ⟨by rw [HL.out], rfl⟩
        · have hlt2 : LS s s.size < s.size := by have := HG.out.2.1.ls; omega
          have hc1 : 0 < col := by have := HG.out.2.1.lt hlt2; have := HI.out; omega
          have t0 : ((col : Int) == 0) = false := beq_eq_false_iff_ne.2 (by omega)
          have HL := Lib.hid (hlbo hlt2)
          clear hls
          go_wp2_with fail
          go_meet
          exact ⟨by rw [HL.out], rfl⟩
      case rest =>
        obtain ⟨rfl, hcw⟩ := hcut
        have hcw1 := hcw.symm
        subst hcw1
        have hlsi : LS s s.size ≤ s.size := HG.out.2.1.ls
        have hnn : ∃ ao nn cap, u5 = .slice ao nn cap ∧ ((!ao.isNone) = false → u5 = .slice none 0 0 ∧ CS s s.size (LS s s.size) none f cbo) ∧ ((!ao.isNone) = true → ∃ zs, Own .i32 21 wr B2 u5 zs ∧ (∃ g, u5.ownBlock = some g) ∧ CI s s.size (LS s s.size) f cbo zs) := by
          have hcs := HG.out.2.2.1
          rcases HG.out.2.2.2.1 with ⟨rfl, rfl⟩ | ⟨zs, rfl, hown, hsm⟩
          · exact ⟨none, 0, 0, rfl, fun _ => ⟨rfl, hcs⟩, fun c => by cases c⟩
          · obtain ⟨ao, cap, rfl, _⟩ := hown.form
            refine ⟨ao, zs.length, cap, rfl, fun c => ?_, fun _ => ⟨zs, hown, hsm, CI.start_old hcs⟩⟩
            obtain ⟨g, hg⟩ := hsm
            rcases ao with _ | x
            · cases hg
            · cases c
        obtain ⟨ao, nn, cap, rfl, hns⟩ := hnn
        obtain ⟨nsl, hnsl⟩ : ∃ b, (!ao.isNone) = b := ⟨_, rfl⟩
        have hneq := fun (w : World) => run_neq_slice_nil_any (P := Tryd.prog) w 85 21 ao nn cap 0 0 Tryd.underlying85
        rw [hnsl] at hns
        simp only [hnsl] at hneq
        clear hnsl
        have HNS := Lib.hid hns
        clear hns
        go_upto_if 95 with fail
        clear hneq
        go_cut [5] (fun x w3 => GF s f B2 wr x w3)
        case first =>
          cases nsl
          · have HCM := Lib.hid (HNS.out.1 rfl)
            go_wp2_with fail
            go_meet
            exact ⟨none, .inl ⟨rfl, HCM.out.1⟩, HCM.out.2.last_none, Below.refl _ _⟩
          · have HCI := Lib.hid (HNS.out.2 rfl)
            have hd1 : ((s.size : Int) - (LS s s.size : Int)) = ((s.size - LS s s.size : Nat) : Int) := by omega
            obtain ⟨dl, hdl⟩ : ∃ dl, s.size - LS s s.size = dl := ⟨_, rfl⟩
            rw [hdl] at hd1
            have hdb : dl ≤ 2097152 := by omega
            have HD := Lib.hid hdl
            clear hdl
            go_wp2_with fail
            go_loopg [5, 8] (s.size + 1) (fun k a b wx => LI s s.size (LS s s.size) f B2 wr k a b wx)
            case atStart =>
              obtain ⟨zs, ho, hsm, hci⟩ := HCI.out
              exact ⟨zs, cbo, rfl, ho, hsm, hci, Below.refl _ _, by omega⟩
            case round =>
              obtain ⟨zs, cb, rfl, ho, hsm, hci, hbw, hkk⟩ := hrel
              have hzl := hci.len
              have hbz := hbw.size
              rcases (show cb ≤ dl ∨ dl < cb by omega) with hc | hc
              · obtain ⟨k', hlk, hlk2⟩ : ∃ k', k' + 1 ≤ s.size - LS s s.size + 1 - cb ∧ s.size - LS s s.size + 1 - (cb + 1) ≤ k' := ⟨s.size - LS s s.size + 1 - (cb + 1), by have := HD.out; omega, Nat.le_refl _⟩
                have HO := Lib.hid (And.intro ho (And.intro hsm (And.intro hci hbw)))
                have HB : Hid (zs.length + 1 ≤ maxLen ∧ (zs.length + 1) * 4 ≤ 140737488355328 ∧ B2 ≤ wr.heap.size) := Lib.hid ⟨by unfold maxLen; omega, by omega, by omega⟩
                clear ho hsm hci hbw
                go_wp2_with (at_builtin; refine wpList_push wr rfl (.tmp 105) (.tmp 107) 85 rfl B2 21 .i32 4 Tryd.underlying85 info21 _ zs _ rfl HO.out.1 rfl HB.out.1 HB.out.2.1 HB.out.2.2 ?_; intro v' w5 ho5 hg5 hn5)
                have HN := Lib.hid (And.intro ho5 (And.intro hg5 hn5))
                clear ho5 hg5 hn5
                go_roundg k'
                case measure => exact Nat.lt_of_lt_of_le (Nat.lt_of_succ_le hlk) hkk
                case rel =>
                  obtain ⟨ho, hsm, hci, hbw⟩ := HO.out
                  obtain ⟨ho5, hg5, hn5⟩ := HN.out
                  have hp := hci.push (by have := HD.out; omega) hlsi
                  have hU1 := U_mono' s hlsi
                  have hce : (col : Int) = (U s s.size : Int) - (U s (LS s s.size) : Int) := by have := HI.out; omega
                  rw [← hce] at hp
                  exact ⟨_, cb + 1, rfl, ho5, own_some ho5 hn5, hp, hg5.below hbw HB.out.2.2 (fun g hg => (ho.lt g hg).1), hlk2⟩
              · have HO := Lib.hid (And.intro ho (And.intro hsm (And.intro hci hbw)))
                clear ho hsm hci hbw hkk
                go_wp2_with fail
                go_meet
                obtain ⟨ho, hsm, hci, hbw⟩ := HO.out
                exact ⟨some zs, .inr ⟨zs, rfl, ho, hsm⟩, (hci.stop (by have := HD.out; omega) hlsi).entry, hbw⟩
        case rest =>
          obtain ⟨c3, hsl3, he3, hb3⟩ := hcut
          have hcz3 := hb3.size
          have HK : Hid (Kp s w w.heap.size w1.heap.size s.size s.size B2 u10 ts wc) := Lib.hid (by
            obtain ⟨hit, hbd, hcs, hsl, hob, htb, hbel, hnr, htr⟩ := HG.out
            exact Kp.under ⟨hit, hob, htb, hbel, hnr, htr, hr2, hB2, hz1⟩ hb3)
          have HM := Lib.hid (And.intro hsl3 he3)
          clear hsl3 he3 hb3
          obtain ⟨ao, nn, cap, rfl⟩ := HM.out.1.form
          have hLb : LS s s.size ≤ 2097152 := by omega
          have hgr := HK.out.bel.size
          have HB : Hid (ts.length + 1 ≤ maxLen ∧ (ts.length + 1) * 32 ≤ 140737488355328 ∧ w.heap.size ≤ (wc.alloc (.cells #[.slice ao nn cap, .int .i32 f, .int .i32 (LS s s.size : Nat)] 87)).heap.size) := Lib.hid (by
            have h1 := HK.out.tb.1
            have h2 := T_len s s.size
            refine ⟨by unfold maxLen; omega, by omega, by simp; omega⟩)
          go_wp2_with (at_builtin; refine wpList_pushB (wc.alloc (.cells #[.slice ao nn cap, .int .i32 f, .int .i32 (LS s s.size : Nat)] 87)) rfl (.tmp 109) (.tmp 115) 57 rfl w.heap.size Tryd.underlying57 32 (.agg #[.slice none 0 0, .int .i32 0, .int .i32 0]) rfl info34 u10 ts ⟨ao, nn, cap, f, LS s s.size⟩ rfl (World.ownsRow.alloc HK.out.ob _) wc.heap.size rfl (Blk.new _ _ _) HB.out.1 HB.out.2.1 HB.out.2.2 ?_; intro v' w4 ho4 hg4 hv4)
          go_ret
          exact gl_end HK.out HM.out.2 HM.out.1 ho4 hg4
    · go_upto_region 10 with (refine wpList_next_at rfl _ rfl w1.heap.size s i rfl HG.out.1 hlt ?_; intro w2 hit2 hg2)
      have hU := U_le s i
      obtain ⟨col, hcol⟩ : ∃ col, U s i - U s (LS s i) = col := ⟨_, rfl⟩
      rw [hcol]
      have hcb : col ≤ 4194304 := by omega
      have HI := Lib.hid (And.intro hit2 (And.intro hg2 hcol))
      clear hit2 hg2 hcol hU
      go_upto_if 24 with fail
      go_cut [7] (fun v wc => v = .int .i64 (LS s i : Nat) ∧ wc = w2)
      case first =>
        by_cases hls : LS s i = i
        · have hc0 : col = 0 := by rw [← HI.out.2.2, hls, Nat.sub_self]
          subst hc0
          have HL := Lib.hid hls
          clear hls
          go_wp2_with fail
          go_meet
          exact ⟨by rw [HL.out], rfl⟩
        · have hlt2 : LS s i < i := by have := HG.out.2.1.ls; omega
          have hc1 : 0 < col := by have := HG.out.2.1.lt hlt2; have := HI.out.2.2; omega
          have t0 : ((col : Int) == 0) = false := beq_eq_false_iff_ne.2 (by omega)
          have HL := Lib.hid (hlbo hlt2)
          clear hls
          go_wp2_with fail
          go_meet
          exact ⟨by rw [HL.out], rfl⟩
      case rest =>
        obtain ⟨rfl, hcw⟩ := hcut
        have hcw1 := hcw.symm
        subst hcw1
        have hB2w : B2 ≤ w2.heap.size := by have := HI.out.2.1.size; omega
        have hlsi : LS s i ≤ i := HG.out.2.1.ls
        have hcp : (Utf8.decode s i).1 = cpt s i := rfl
        rw [hcp]
        have HCP := Lib.hid hcp
        clear hcp
        go_upto_region 12 with fail
        go_cut [31] (fun v wc => ∃ o : Bool, v = .bool o ∧ (o = true ↔ (c = none ∧ 128 ≤ byteAt s i)) ∧ wc = w2)
        case first =>
          have hcpl : cpt s i ≤ 2147483647 := decode_le s i
          by_cases hb : byteAt s i < 128
          · have hw := (wd_ascii s i hlt hb).2
            have t1 : cpt s i < 128 := by omega
            have HB := Lib.hid hb
            generalize cpt s i = cp at *
            clear hw hb
            go_wp2_with fail
            go_meet
            first | exact ⟨false, rfl, ⟨fun h => (by cases h), fun h => absurd HB.out (Nat.not_lt.2 h.2)⟩, rfl⟩ | exact ⟨⟨fun h => (by cases h), fun h => absurd HB.out (Nat.not_lt.2 h.2)⟩, rfl⟩
          · have hw := cpt_high s i hlt (by omega)
            have t1 : 127 < cpt s i := by omega
            have HB := Lib.hid (Nat.not_lt.1 hb)
            generalize cpt s i = cp at *
            clear hw hb
            rcases HG.out.2.2.2.1 with ⟨hc, rfl⟩ | ⟨zs, hc, hown, g, hg⟩
            · have HCN := Lib.hid hc
              have hnil := fun (w : World) => Lib.run_eql_slice_nil (P := Tryd.prog) w 85 21 none 0 0 0 0 Tryd.underlying85
              simp only [Option.isNone_none] at hnil
              go_wp2_with fail
              go_meet
              first | exact ⟨true, rfl, ⟨fun _ => ⟨HCN.out, HB.out⟩, fun _ => rfl⟩, rfl⟩ | exact ⟨⟨fun _ => ⟨HCN.out, HB.out⟩, fun _ => by first | rfl | trivial⟩, rfl⟩
            · obtain ⟨ao, cap, rfl, _, _, _⟩ := hown.form
              have hao2 : ao.isNone = false := by
                rcases ao with _ | x
                · cases hg
                · rfl
              have hnil := fun (w : World) => Lib.run_eql_slice_nil (P := Tryd.prog) w 85 21 ao zs.length cap 0 0 Tryd.underlying85
              simp only [hao2] at hnil
              have HCN : Hid (c ≠ none) := Lib.hid (by rw [hc]; simp)
              clear hown hg hao2
              go_wp2_with fail
              go_meet
              first | exact ⟨false, rfl, ⟨fun h => (by cases h), fun h => absurd h.1 HCN.out⟩, rfl⟩ | exact ⟨⟨fun h => (by cases h), fun h => absurd h.1 HCN.out⟩, rfl⟩
        case rest =>
          obtain ⟨o, rfl, ho, hcw⟩ := hcut
          have hcw1 := hcw.symm
          subst hcw1
          go_upto_if 31 with fail
          go_cut [5, 6, 8] (fun x y z wc => GM s i B2 w2 x y z wc)
          case first =>
            have hd1 : ((i : Int) - (LS s i : Int)) = ((i - LS s i : Nat) : Int) := by omega
            have hd2 : i - LS s i < 2147483648 := by omega
            have hkeep : Sl w2 B2 u5 c := HG.out.2.2.2.1.gb HI.out.2.1 (by
              rcases HG.out.2.2.2.1 with ⟨_, rfl⟩ | ⟨zs, _, hown, _⟩
              · exact .inl rfl
              · rcases hv : (u5 : Value).ownBlock with _ | g
                · exact .inl rfl
                · exact .inr (fun e => by cases e; have := (hown.lt _ hv).1; omega))
            have HKp := Lib.hid hkeep
            clear hkeep
            cases o
            · have HO := Lib.hid ho
              clear ho
              go_wp2_with fail
              go_meet
              refine ⟨f, cbo, rfl, rfl, Below.refl _ _, ?_⟩
              have hcs := HG.out.2.2.1
              rcases HKp.out with ⟨hc, hv⟩ | ⟨zs, hc, hown, hg⟩
              · subst hc
                exact .inl ⟨hv, CM.none hcs (Nat.lt_of_not_le (fun h => by have := HO.out.2 ⟨rfl, h⟩; cases this))⟩
              · subst hc
                obtain ⟨ao, cap, hv, _, _, _⟩ := hown.form
                exact .inr ⟨zs, ao, zs.length, cap, hv, hown, hg, CI.start_old hcs⟩
            · have HO := Lib.hid (ho.1 rfl)
              clear ho
              go_wp2_with fail
              go_meet
              have hcs := HG.out.2.2.1
              rw [HO.out.1] at hcs
              exact ⟨i - LS s i, i - LS s i, rfl, rfl, (Below.refl _ _).alloc (Nat.le_refl _) _, .inr ⟨[], some ⟨w2.heap.size, 0, none⟩, 0, 0, rfl, Own.of_blk (k := .i32) (zs := []) (Blk.new w2 21 #[]) hB2w (by unfold maxLen; simp), ⟨_, rfl⟩, CI.start_new hcs hlsi hlt HO.out.2⟩⟩
          case rest =>
            obtain ⟨f2, cbo2, rfl, rfl, hbc, hgm⟩ := hcut
            have hcz := hbc.size
            have hB2c : B2 ≤ wc.heap.size := by omega
            have HW := Lib.hid (And.intro hbc ho)
            clear ho hcw hbc
            have hnn : ∃ ao nn cap, u5 = .slice ao nn cap ∧ ((!ao.isNone) = false → u5 = .slice none 0 0 ∧ CM s i (LS s i) none f2 cbo2) ∧ ((!ao.isNone) = true → ∃ zs, Own .i32 21 wc B2 u5 zs ∧ (∃ g, u5.ownBlock = some g) ∧ CI s i (LS s i) f2 cbo2 zs) := by
              rcases hgm with ⟨rfl, hcm⟩ | ⟨zs, ao, nn, cap, rfl, hown, hsm, hci⟩
              · exact ⟨none, 0, 0, rfl, fun _ => ⟨rfl, hcm⟩, fun c => by cases c⟩
              · refine ⟨ao, nn, cap, rfl, fun c => ?_, fun _ => ⟨zs, hown, hsm, hci⟩⟩
                obtain ⟨g, hg⟩ := hsm
                rcases ao with _ | x
                · cases hg
                · cases c
            obtain ⟨ao, nn, cap, rfl, hns⟩ := hnn
            obtain ⟨nsl, hnsl⟩ : ∃ b, (!ao.isNone) = b := ⟨_, rfl⟩
            have hneq := fun (w : World) => run_neq_slice_nil_any (P := Tryd.prog) w 85 21 ao nn cap 0 0 Tryd.underlying85
            rw [hnsl] at hns
            simp only [hnsl] at hneq
            clear hnsl
            have HNS := Lib.hid hns
            clear hns hgm
            go_upto_if 39 with fail
            clear hneq
            go_cut [5, 8] (fun x z w3 => GE s i (LS s i) f2 B2 wc x z w3)
            case first =>
              cases nsl
              · have HN := HNS.out.1 rfl
                obtain ⟨hu, hcm⟩ := HN
                have HCM := Lib.hid (And.intro hu hcm)
                clear hu hcm
                go_wp2_with fail
                go_meet
                exact ⟨none, cbo2, rfl, .inl ⟨rfl, HCM.out.1⟩, HCM.out.2, Below.refl _ _⟩
              · have HCI := Lib.hid (HNS.out.2 rfl)
                have hd1 : ((i : Int) - (LS s i : Int)) = ((i - LS s i : Nat) : Int) := by omega
                obtain ⟨dl, hdl⟩ : ∃ dl, i - LS s i = dl := ⟨_, rfl⟩
                rw [hdl] at hd1
                have hdb : dl ≤ 2097152 := by omega
                have HD := Lib.hid hdl
                clear hdl
                go_upto_block 3 with fail
                go_loopg [5, 8] (i + 1) (fun k a b wr => LI s i (LS s i) f2 B2 wc k a b wr)
                case atStart =>
                  obtain ⟨zs, ho, hsm, hci⟩ := HCI.out
                  exact ⟨zs, cbo2, rfl, ho, hsm, hci, Below.refl _ _, by omega⟩
                case round =>
                  obtain ⟨zs, cb, rfl, ho, hsm, hci, hbw, hkk⟩ := hrel
                  have hzl := hci.len
                  have hbz := hbw.size
                  rcases (show cb ≤ dl ∨ dl < cb by omega) with hc | hc
                  · obtain ⟨k', hlk, hlk2⟩ : ∃ k', k' + 1 ≤ i - LS s i + 1 - cb ∧ i - LS s i + 1 - (cb + 1) ≤ k' := ⟨i - LS s i + 1 - (cb + 1), by have := HD.out; omega, Nat.le_refl _⟩
                    have HO := Lib.hid (And.intro ho (And.intro hsm (And.intro hci hbw)))
                    clear ho hsm hci hbw
                    have HB : Hid (zs.length + 1 ≤ maxLen ∧ (zs.length + 1) * 4 ≤ 140737488355328 ∧ B2 ≤ wr.heap.size) := Lib.hid ⟨by unfold maxLen; omega, by omega, by omega⟩
                    go_wp2_with (at_builtin; go_loud (refine wpList_push wr rfl (.tmp 48) (.tmp 50) 85 rfl B2 21 .i32 4 Tryd.underlying85 info21 _ zs _ rfl HO.out.1 rfl HB.out.1 HB.out.2.1 HB.out.2.2 ?_; intro v' w5 ho5 hg5 hn5))
                    have HN := Lib.hid (And.intro ho5 (And.intro hg5 hn5))
                    clear ho5 hg5 hn5
                    go_roundg k'
                    case measure => exact Nat.lt_of_lt_of_le (Nat.lt_of_succ_le hlk) hkk
                    case rel =>
                      obtain ⟨ho, hsm, hci, hbw⟩ := HO.out
                      obtain ⟨ho5, hg5, hn5⟩ := HN.out
                      have hp := hci.push (by have := HD.out; omega) hlsi
                      have hU1 := U_mono' s hlsi
                      have hce : (col : Int) = (U s i : Int) - (U s (LS s i) : Int) := by have := HI.out.2.2; omega
                      rw [← hce] at hp
                      exact ⟨_, cb + 1, rfl, ho5, own_some ho5 hn5, hp, hg5.below hbw HB.out.2.2 (fun g hg => (ho.lt g hg).1), hlk2⟩
                  · have HO := Lib.hid (And.intro ho (And.intro hsm (And.intro hci hbw)))
                    clear ho hsm hci hbw hkk
                    go_wp2_with fail
                    go_meet
                    obtain ⟨ho, hsm, hci, hbw⟩ := HO.out
                    exact ⟨some zs, cb, rfl, .inr ⟨zs, rfl, ho, hsm⟩, hci.stop (by have := HD.out; omega) hlsi, hbw⟩
            case rest =>
              obtain ⟨c3, cbo3, rfl, hsl3, hcm3, hb3⟩ := hcut
              have hcz3 := hb3.size
              have HK : Hid (Kp s w w.heap.size w1.heap.size i (i + wd s i) B2 u10 ts wc) := Lib.hid (by
                obtain ⟨hit, hbd, hcs, hsl, hob, htb, hbel, hnr, htr⟩ := HG.out
                obtain ⟨hit2, hg2, hcol⟩ := HI.out
                have hk2 : Kp s w w.heap.size w1.heap.size i (i + wd s i) B2 u10 ts w2 := ⟨hit2, hob.gb hg2 (by
                  rcases hx : (u10 : Value).ownBlock with _ | x
                  · exact .inl rfl
                  · exact .inr (fun e => (hnr x hx).1 (by cases e; rfl))), htb.gb hg2 (fun j hj => .inr (htr j hj)), below_gb hbel hg2 hbel.size hz1, hnr, htr, hr2, hB2w, hz1⟩
                exact hk2.under ((HW.out.1.mono hB2w).trans hb3))
              have HM := Lib.hid (And.intro hsl3 hcm3)
              clear hsl3 hcm3 hb3
              obtain ⟨ao, nn, cap, rfl⟩ := HM.out.1.form
              have hLb : LS s i ≤ 2097152 := by omega
              have hgr := HK.out.bel.size
              have HB : Hid (ts.length + 1 ≤ maxLen ∧ (ts.length + 1) * 32 ≤ 140737488355328 ∧ w.heap.size ≤ (wc.alloc (.cells #[.slice ao nn cap, .int .i32 f2, .int .i32 (LS s i : Nat)] 87)).heap.size) := Lib.hid (by
                have h1 := HK.out.tb.1
                have h2 := T_len s i
                refine ⟨by unfold maxLen; omega, by omega, by simp; omega⟩)
              have hcases : ((tm s i = true ∧ (cpt s i = 10 ∨ cpt s i = 8232 ∨ cpt s i = 8233 ∨ (cpt s i = 13 ∧ ¬ i + 1 < s.size) ∨ (cpt s i = 13 ∧ ∃ h : i + 1 < s.size, ¬ (s[i + 1]'h).toNat = 10))) ∨ (tm s i = false ∧ ((cpt s i = 13 ∧ un s i = 1 ∧ ∃ h : i + 1 < s.size, (s[i + 1]'h).toNat = 10) ∨ (cpt s i ≠ 13 ∧ cpt s i ≠ 10 ∧ cpt s i ≠ 8232 ∧ cpt s i ≠ 8233 ∧ ((cpt s i ≤ 65535 ∧ un s i = 1) ∨ (65535 < cpt s i ∧ un s i = 2)))))) := sw_cases s i
              have hcpl : cpt s i ≤ 2147483647 := decode_le s i
              rcases hcases with ⟨htm, hcs⟩ | ⟨htm, hcs⟩
              · have HT := Lib.hid htm
                clear htm
                generalize cpt s i = cp at *
                have hfin : ∀ (v' : Value) (w4 : World), OwnB w4 w.heap.size v' (ts ++ [⟨ao, nn, cap, f2, LS s i⟩]) → (wc.alloc (.cells #[.slice ao nn cap, .int .i32 f2, .int .i32 (LS s i : Nat)] 87)).grownBy w4 u10.ownBlock → (v'.ownBlock = u10.ownBlock ∨ v'.ownBlock = some (wc.alloc (.cells #[.slice ao nn cap, .int .i32 f2, .int .i32 (LS s i : Nat)] 87)).heap.size) → GR s w w.heap.size w1.heap.size (s.size - (i + wd s i)) (.slice none 0 0) (.int .i32 0) (.int .i64 (LS s i : Nat)) (.int .i64 0) (.int .i32 0) v' w4 :=
                  fun v' w4 a b c => gr_line HK.out HG.out.2.1 hlt HM.out.2 HM.out.1 HT.out a b c
                have HF := Lib.hid hfin
                clear hfin
                rcases hcs with rfl | rfl | rfl | ⟨rfl, hn⟩ | ⟨rfl, h1, hn⟩
                · go_wp2_with (at_builtin; refine wpList_pushB (wc.alloc (.cells #[.slice ao nn cap, .int .i32 f2, .int .i32 (LS s i : Nat)] 87)) rfl (.tmp 82) (.tmp 88) 57 rfl w.heap.size Tryd.underlying57 32 (.agg #[.slice none 0 0, .int .i32 0, .int .i32 0]) rfl info34 u10 ts ⟨ao, nn, cap, f2, LS s i⟩ rfl (World.ownsRow.alloc HK.out.ob _) wc.heap.size rfl (Blk.new _ _ _) HB.out.1 HB.out.2.1 HB.out.2.2 ?_; intro v' w4 ho4 hg4 hv4)
                  have HN := Lib.hid (HF.out v' w4 ho4 hg4 hv4)
                  clear ho4 hg4 hv4
                  go_roundg (s.size - (i + wd s i))
                  case measure => have := wd_pos s i hlt; omega
                  case rel => exact HN.out
                · go_wp2_with (at_builtin; refine wpList_pushB (wc.alloc (.cells #[.slice ao nn cap, .int .i32 f2, .int .i32 (LS s i : Nat)] 87)) rfl (.tmp 82) (.tmp 88) 57 rfl w.heap.size Tryd.underlying57 32 (.agg #[.slice none 0 0, .int .i32 0, .int .i32 0]) rfl info34 u10 ts ⟨ao, nn, cap, f2, LS s i⟩ rfl (World.ownsRow.alloc HK.out.ob _) wc.heap.size rfl (Blk.new _ _ _) HB.out.1 HB.out.2.1 HB.out.2.2 ?_; intro v' w4 ho4 hg4 hv4)
                  have HN := Lib.hid (HF.out v' w4 ho4 hg4 hv4)
                  clear ho4 hg4 hv4
                  go_roundg (s.size - (i + wd s i))
                  case measure => have := wd_pos s i hlt; omega
                  case rel => exact HN.out
                · go_wp2_with (at_builtin; refine wpList_pushB (wc.alloc (.cells #[.slice ao nn cap, .int .i32 f2, .int .i32 (LS s i : Nat)] 87)) rfl (.tmp 82) (.tmp 88) 57 rfl w.heap.size Tryd.underlying57 32 (.agg #[.slice none 0 0, .int .i32 0, .int .i32 0]) rfl info34 u10 ts ⟨ao, nn, cap, f2, LS s i⟩ rfl (World.ownsRow.alloc HK.out.ob _) wc.heap.size rfl (Blk.new _ _ _) HB.out.1 HB.out.2.1 HB.out.2.2 ?_; intro v' w4 ho4 hg4 hv4)
                  have HN := Lib.hid (HF.out v' w4 ho4 hg4 hv4)
                  clear ho4 hg4 hv4
                  go_roundg (s.size - (i + wd s i))
                  case measure => have := wd_pos s i hlt; omega
                  case rel => exact HN.out
                · have hd : decide ((i : Int) + 1 < (s.size : Int)) = false := by simp; omega
                  go_wp2_with (at_builtin; refine wpList_pushB (wc.alloc (.cells #[.slice ao nn cap, .int .i32 f2, .int .i32 (LS s i : Nat)] 87)) rfl (.tmp 82) (.tmp 88) 57 rfl w.heap.size Tryd.underlying57 32 (.agg #[.slice none 0 0, .int .i32 0, .int .i32 0]) rfl info34 u10 ts ⟨ao, nn, cap, f2, LS s i⟩ rfl (World.ownsRow.alloc HK.out.ob _) wc.heap.size rfl (Blk.new _ _ _) HB.out.1 HB.out.2.1 HB.out.2.2 ?_; intro v' w4 ho4 hg4 hv4)
                  have HN := Lib.hid (HF.out v' w4 ho4 hg4 hv4)
                  clear ho4 hg4 hv4
                  go_roundg (s.size - (i + wd s i))
                  case measure => have := wd_pos s i hlt; omega
                  case rel => exact HN.out
                · obtain ⟨n1, hn1, hb, hq⟩ : ∃ n1 : Nat, ((i : Int) + 1) = (n1 : Int) ∧ ∃ hb : n1 < s.size, (((s[n1]'hb).toNat : Int) == 10) = false := ⟨i + 1, by omega, h1, by simpa using (by omega : ¬ ((s[i + 1]'h1).toNat : Int) = 10)⟩
                  clear hn h1
                  go_wp2_with (at_builtin; refine wpList_pushB (wc.alloc (.cells #[.slice ao nn cap, .int .i32 f2, .int .i32 (LS s i : Nat)] 87)) rfl (.tmp 82) (.tmp 88) 57 rfl w.heap.size Tryd.underlying57 32 (.agg #[.slice none 0 0, .int .i32 0, .int .i32 0]) rfl info34 u10 ts ⟨ao, nn, cap, f2, LS s i⟩ rfl (World.ownsRow.alloc HK.out.ob _) wc.heap.size rfl (Blk.new _ _ _) HB.out.1 HB.out.2.1 HB.out.2.2 ?_; intro v' w4 ho4 hg4 hv4)
                  have HN := Lib.hid (HF.out v' w4 ho4 hg4 hv4)
                  clear ho4 hg4 hv4
                  go_roundg (s.size - (i + wd s i))
                  case measure => have := wd_pos s i hlt; omega
                  case rel => exact HN.out
              · have HT := Lib.hid htm
                clear htm
                generalize cpt s i = cp at *
                have hcol0 : U s i - U s (LS s i) = col + 0 := HI.out.2.2
                have hfin : ∀ v9 : Value, v9 = .int .i32 (col + un s i : Nat) → GR s w w.heap.size w1.heap.size (s.size - (i + wd s i)) (.slice ao nn cap) (.int .i32 f2) (.int .i64 (LS s i : Nat)) (.int .i64 cbo3) v9 u10 wc := fun v9 h9 => gr_next HK.out HG.out.2.1 hlt HM.out.2 HM.out.1 HT.out hcol0 v9 h9
                have HF := Lib.hid hfin
                clear hfin hcol0
                rcases hcs with ⟨rfl, hun, h1, hn⟩ | ⟨h1, h2, h3, h4, ⟨hle, hun⟩ | ⟨hle, hun⟩⟩
                · have HUN := Lib.hid hun
                  clear hun
                  obtain ⟨n1, hn1, hb, hq⟩ : ∃ n1 : Nat, ((i : Int) + 1) = (n1 : Int) ∧ ∃ hb : n1 < s.size, (((s[n1]'hb).toNat : Int) == 10) = true := ⟨i + 1, by omega, h1, by rw [hn]; rfl⟩
                  clear hn h1
                  go_wp2_with fail
                  go_roundg (s.size - (i + wd s i))
                  case measure => have := wd_pos s i hlt; omega
                  case rel => exact HF.out _ (by rw [HUN.out]; go_num)
                · have HUN := Lib.hid hun
                  clear hun
                  have q1 : ((cp : Int) == 13) = false := beq_eq_false_iff_ne.2 (by omega)
                  have q2 : ((cp : Int) == 10) = false := beq_eq_false_iff_ne.2 (by omega)
                  have q3 : ((cp : Int) == 8232) = false := beq_eq_false_iff_ne.2 (by omega)
                  have q4 : ((cp : Int) == 8233) = false := beq_eq_false_iff_ne.2 (by omega)
                  clear h1 h2 h3 h4
                  go_wp2_with fail
                  go_roundg (s.size - (i + wd s i))
                  case measure => have := wd_pos s i hlt; omega
                  case rel => exact HF.out _ (by rw [HUN.out]; go_num)
                · have HUN := Lib.hid hun
                  clear hun
                  have q1 : ((cp : Int) == 13) = false := beq_eq_false_iff_ne.2 (by omega)
                  have q2 : ((cp : Int) == 10) = false := beq_eq_false_iff_ne.2 (by omega)
                  have q3 : ((cp : Int) == 8232) = false := beq_eq_false_iff_ne.2 (by omega)
                  have q4 : ((cp : Int) == 8233) = false := beq_eq_false_iff_ne.2 (by omega)
                  clear h1 h2 h3 h4
                  go_wp2_with fail
                  go_roundg (s.size - (i + wd s i))
                  case measure => have := wd_pos s i hlt; omega
                  case rel => exact HF.out _ (by rw [HUN.out]; go_num)
end Go.Proofs.YtfbeeekakfllpaaDoor
