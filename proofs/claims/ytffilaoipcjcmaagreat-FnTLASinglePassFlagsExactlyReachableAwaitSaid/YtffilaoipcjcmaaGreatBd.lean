/-
  zzBuild, walked. No statement of the seat is proved here.
-/
import Derived.Test.YtffilaoipcjcmaaGreatNw
import Derived.Test.YtffilaoipcjcmaaGreatCa
import Derived.StillTailTactics
import Derived.Maps.AppendAt
namespace Go.Proofs.YtffilaoipcjcmaaGreat
open Go.RowKit
set_option linter.unusedVariables false
set_option linter.unusedSimpArgs false

theorem addr0 (Y j : Nat) : (⟨Y, 0, none⟩ : Addr).add j = ⟨Y, j, none⟩ := by unfold Addr.add; split <;> simp_all
theorem cellN {w w' : World} (h : w.grownBy w' none) {p : Addr} {v : Value} (hc : w.cell? p = some v) : w'.cell? p = some v := by
  have hl := World.block_lt_of_cell? w p hc
  rw [← hc]
  exact World.cell?_of_block (h.block p.block hl (by simp))
/-- the law's five slices -/
structure Ar (w : World) (g : Gx) (a0 a1 a2 a3 a4 : Option Addr) : Prop where
  h0 : InB w a0 g.ts
  h1 : InB w a1 g.gs
  h2 : In .u16 w a2 g.sr
  h3 : In .u16 w a3 g.ds
  h4 : In .u8 w a4 g.kd
theorem Ar.kept {w w' : World} {g : Gx} {a0 a1 a2 a3 a4 : Option Addr} (h : Ar w g a0 a1 a2 a3 a4) (hb : Below w.heap.size w w') : Ar w' g a0 a1 a2 a3 a4 :=
  ⟨h.h0.kept hb, h.h1.kept hb, h.h2.kept hb, h.h3.kept hb, h.h4.kept hb⟩
/-- a result not laid -/
structure Zc (cs : Array Value) (v : Nat) : Prop where
  ok : cs[v * 27 + 26]? = some (.bool false)
  pa : cs[v * 27 + 22]? = some (.int .u32 0)
  de : cs[v * 27 + 23]? = some (.int .u32 0)
  ps : cs[v * 27 + 24]? = some (.int .u32 0)
  re : cs[v * 27 + 25]? = some (.int .u32 0)
theorem Zc.same {cs ds : Array Value} {v i : Nat} (h : Zc cs v) (hs : ∀ j, j < i * 27 ∨ i * 27 + 27 ≤ j → ds[j]? = cs[j]?) (hv : v ≠ i) : Zc ds v :=
  ⟨(hs _ (by omega)).trans h.ok, (hs _ (by omega)).trans h.pa, (hs _ (by omega)).trans h.de, (hs _ (by omega)).trans h.ps, (hs _ (by omega)).trans h.re⟩
theorem Fc.same {cs ds : Array Value} {g : Gx} {P : Nat → Nat} {p : Int} {v i : Nat} {dv : Bool} {pa de re : Int} (h : Fc cs g P p v dv pa de re) (hs : ∀ j, j < i * 27 ∨ i * 27 + 27 ≤ j → ds[j]? = cs[j]?) (hv : v ≠ i) : Fc ds g P p v dv pa de re :=
  ⟨(hs _ (by omega)).trans h.ok, fun hp => (hs _ (by omega)).trans (h.rp hp), (hs _ (by omega)).trans h.pa, (hs _ (by omega)).trans h.de, (hs _ (by omega)).trans h.ps, (hs _ (by omega)).trans h.re⟩
/-- the world behind the first i files -/
structure Zq (w wx : World) (S F i : Nat) (P : Nat → Nat) (A : Nat → Option Addr) (K : Nat → Nat) (g : Gx) (p : Int) : Prop where
  s : ∃ cs, Blk wx S 156 cs ∧ cs[11]? = some (.slice (some ⟨F, 0, none⟩) g.ts.length g.ts.length)
  f : ∃ cs, Blk wx F 90 cs ∧ cs.size = g.ts.length * 27 ∧ (∀ v, v < i → Fc cs g P p v false 4294967295 4294967295 0) ∧ ∀ v, i ≤ v → v < g.ts.length → Zc cs v
  q : ∀ v, v < i → prs g v = true → Pw wx (P v) (A v) (K v) g v
  r : ∀ v, v < i → prs g v = true → Rw wx (A v) g (esv g v (mE g))
  lo : w.heap.size ≤ S ∧ w.heap.size ≤ F
  g : w.grownBy wx none
theorem Zq.grow {w wx wy : World} {S F i : Nat} {P : Nat → Nat} {A : Nat → Option Addr} {K : Nat → Nat} {g : Gx} {p : Int} (h : Zq w wx S F i P A K g p) (hg : wx.grownBy wy none) : Zq w wy S F i P A K g p := by
  obtain ⟨cs, h1, h2⟩ := h.s
  obtain ⟨ds, k1, k2⟩ := h.f
  exact ⟨⟨cs, h1.gb hg (by simp), h2⟩, ⟨ds, k1.gb hg (by simp), k2⟩, fun v hv hp => (h.q v hv hp).grow hg, fun v hv hp => (h.r v hv hp).grow hg, h.lo, gb_trans h.g hg⟩
/-- a file that is gone -/
theorem Zq.skip {w wx : World} {S F i : Nat} {P : Nat → Nat} {A : Nat → Option Addr} {K : Nat → Nat} {g : Gx} {p : Int} (h : Zq w wx S F i P A K g p) (hi : i < g.ts.length) (hp : prs g i = false) : Zq w wx S F (i + 1) P A K g p := by
  obtain ⟨ds, k1, k2, k3, k4⟩ := h.f
  refine ⟨h.s, ⟨ds, k1, k2, fun v hv => ?_, fun v hv hl => k4 v (by omega) hl⟩, fun v hv hq => ?_, fun v hv hq => ?_, h.lo, h.g⟩
  · by_cases e : v = i
    · subst e
      have hz := k4 v (Nat.le_refl _) hi
      exact ⟨by rw [hp]; exact hz.ok, fun h => (by rw [hp] at h; cases h), hz.pa, hz.de, hz.ps, hz.re⟩
    · exact k3 v (by omega)
  · by_cases e : v = i
    · subst e; rw [hp] at hq; cases hq
    · exact h.q v (by omega) hq
  · by_cases e : v = i
    · subst e; rw [hp] at hq; cases hq
    · exact h.r v (by omega) hq
/-- a file laid -/
theorem Zq.lay {w wx wy : World} {S F i : Nat} {P : Nat → Nat} {A : Nat → Option Addr} {K : Nat → Nat} {g : Gx} {p : Int} (h : Zq w wx S F i P A K g p) (hi : i < g.ts.length) (hp : prs g i = true) {cs : Array Value} (hcs : Blk wx F 90 cs) {ao : Option Addr} {cap : Nat}
    (hl : Laid wx wy F cs i (tlen g i) ao (esv g i (mE g)).length cap) (hr : Rw wx ao g (esv g i (mE g))) : ∃ P A K, Zq w wy S F (i + 1) P A K g p := by
  obtain ⟨q, cs', ⟨js, j1, j2, j3⟩, hq, hb, hs, ho, hn, hg⟩ := hl
  obtain ⟨ds, k1, k2, k3, k4⟩ := h.f
  have e0 : cs = ds := by
    unfold Blk at hcs k1
    rw [hcs] at k1
    have := Option.some.inj k1
    rw [Obj.cells.injEq] at this
    exact this.1
  subst e0
  obtain ⟨ss, s1, s2⟩ := h.s
  refine ⟨fun v => if v = i then q else P v, fun v => if v = i then ao else A v, fun v => if v = i then cap else K v, ⟨ss, s1.gb hg (fun e => blk_ne s1 hcs (by decide) (Option.some.inj e)), s2⟩, ⟨cs', hb, by rw [hs, k2], fun v hv => ?_, fun v hv hl => (k4 v (by omega) hl).same ho (by omega)⟩, fun v hv hq => ?_, fun v hv hq => ?_, h.lo, gb_new (gb_trans (gb_none h.g) hg) h.lo.2⟩
  · by_cases e : v = i
    · subst e
      refine ⟨?_, fun _ => ?_, ?_, ?_, ?_, ?_⟩
      · rw [hn 26 (by omega), p90_26, hp]
      · rw [hn 4 (by omega), p90_4, if_pos rfl]
      · rw [hn 22 (by omega), p90_22]; rfl
      · rw [hn 23 (by omega), p90_23]; rfl
      · rw [hn 24 (by omega), p90_24]; rfl
      · rw [hn 25 (by omega), p90_25]
    · have hf := (k3 v (by omega)).same ho e
      refine ⟨hf.ok, fun hp => ?_, hf.pa, hf.de, hf.ps, hf.re⟩
      rw [if_neg e]; exact hf.rp hp
  · by_cases e : v = i
    · subst e
      simp only [if_pos rfl]
      exact ⟨js, j1, j2, j3⟩
    · simp only [if_neg e]
      exact (h.q v (by omega) hq).gb hcs (by decide) hg
  · by_cases e : v = i
    · subst e
      simp only [if_pos rfl]
      exact hr.gb hcs (by decide) hg
    · simp only [if_neg e]
      exact (h.r v (by omega) hq).gb hcs (by decide) hg
/-! rows of records -/
def rws (g : Gx) (es : List Nat) : List Value := es.flatMap (fun e => rowL (kdv g e) (flx g e))
theorem rws_snoc (g : Gx) (es : List Nat) (e : Nat) : rws g (es ++ [e]) = rws g es ++ rowL (kdv g e) (flx g e) := by unfold rws; rw [List.flatMap_append]; simp
theorem rws_len (g : Gx) (es : List Nat) : (rws g es).length = es.length * 15 := by
  induction es with
  | nil => rfl
  | cons e es ih =>
    have : rws g (e :: es) = rowL (kdv g e) (flx g e) ++ rws g es := rfl
    rw [this, List.length_append, ih]
    simp [rowL]; omega
theorem rws_at (g : Gx) (es : List Nat) : ∀ (j i : Nat), j < es.length → i < 15 → (rws g es)[j * 15 + i]? = (rowL (kdv g (eat es j)) (flx g (eat es j)))[i]? := by
  induction es with
  | nil => intro j i hj; simp at hj
  | cons e es ih =>
    intro j i hj hi
    have e1 : rws g (e :: es) = rowL (kdv g e) (flx g e) ++ rws g es := rfl
    have hl : (rowL (kdv g e) (flx g e)).length = 15 := rfl
    rw [e1]
    cases j with
    | zero =>
      rw [Nat.zero_mul, Nat.zero_add, List.getElem?_append_left (by rw [hl]; exact hi)]
      rfl
    | succ j =>
      rw [List.getElem?_append_right (by rw [hl]; omega), hl, show (j + 1) * 15 + i - 15 = j * 15 + i by omega, ih j i (by simpa using hj) hi]
      rfl
/-- the slice that grows -/
def Rs (w : World) (B : Nat) (v : Value) (g : Gx) (es : List Nat) : Prop := w.ownsRow B 63 15 v es.length (rws g es)
theorem Rs.rw_ {w : World} {B : Nat} {v : Value} {g : Gx} {es : List Nat} (h : Rs w B v g es) : ∃ ao cap, v = .slice ao es.length cap ∧ Rw w ao g es := by
  obtain ⟨h1, h2⟩ := h
  rcases h2 with ⟨rfl, h0⟩ | ⟨b, cap, cur, rfl, hB, hh, hc, hm, hs, ht⟩
  · have hz : es = [] := List.eq_nil_of_length_eq_zero h0
    subst hz
    exact ⟨none, 0, rfl, .inl rfl⟩
  · refine ⟨_, cap, rfl, .inr ⟨b, cur, rfl, hh, fun j hj i hi => ?_⟩⟩
    rw [← rws_at g es j i hj hi, ← ht, List.getElem?_take, if_pos (by omega)]
    simp
theorem Rs.gb {w w' : World} {B : Nat} {v : Value} {g : Gx} {es : List Nat} (h : Rs w B v g es) (hg : w.grownBy w' none) : Rs w' B v g es := World.ownsRow.kept h hg (by cases v.ownBlock <;> simp)
theorem Rs.lt {w : World} {B : Nat} {v : Value} {g : Gx} {es : List Nat} (h : Rs w B v g es) : ∀ b, v.ownBlock = some b → B ≤ b ∧ b < w.heap.size := World.ownsRow.lt h
theorem zinfo63 : (Tryz.prog.info? 63).map (fun i => (i.zero, i.size, i.bytes)) = some (some (.agg (rowL 0 0).toArray), 15, 112) := by kernel_rfl
theorem step_append {P : Program} {ops : Array Oper} {o : Oper} {a : Act} {w : World} {K : Act → World → Prop} {Q : Exit → Act → World → Prop} {E : Prop} (hw : Region.wanted o (yielded ops a.tmps) = true) (s x : Operand) (t : TypeId)
    (ho : o.op = .call { callee := .builtin .append, args := #[s, x], argTypes := #[t, t] })
    (base : Nat) (e : TypeId) (i : TypeInfo) (z : Value) (size bytes : Nat) (ht : P.underlying t = some (.slice e)) (hi : P.info? e = some i) (hz : i.zero = some z)
    (hsize : i.size = size) (hby : i.bytes = bytes) (hzs : z.cells.size = size) (hsz : 0 < size)
    (v : Value) (n : Nat) (xs : List Value) (hs : a.eval s = v) (hown : w.ownsRow base e size v n xs)
    (ad : Addr) (m c : Nat) (news : List Value) (hx : a.eval x = .slice (some ad) m c) (hl : news.length = m * size) (hnews : ∀ j u, news[j]? = some u → w.cell? (ad.add j) = some u) (h1 : ∀ u ∈ news, u.oneCell' = true)
    (h63 : n + m ≤ maxLen) (hbytes : (n + m) * bytes ≤ 140737488355328) (hbase : base ≤ w.heap.size)
    (h : ∀ v' w', w'.ownsRow base e size v' (n + m) (xs ++ news) → w.grownBy w' v.ownBlock → K (a.put o.dst v') w') :
    if Region.wanted o (yielded ops a.tmps) = true then Oper.wp P o a w K Q else E := by
  rw [if_pos hw]
  obtain ⟨v', w', hr, h2, h3, h4, h5⟩ := run_append_own_at (P := P) w base t o.type e i z size bytes ht hi hz hsize hby hzs hsz v n xs hown ad m c news hl hnews h1 h63 hbytes hbase
  unfold Oper.wp execOp
  simp only [ho, resolve, invoke, builtin, Sem.run_bind, Sem.run_pure, Result.andThen_ok, List.map_toArray, List.map_cons, List.map_nil, hs, hx, hr]
  exact h v' w' h2 h3
theorem build63 (k x : Int) (w : World) : (Instr.build 63 #[(9, .int .u8 k), (5, .agg #[.int .u32 x])]).run Tryz.prog w = .ok (.agg (rowL k x).toArray) w := by kernel_rfl
def BdE (w : World) (g : Gx) (p : Int) (e : Ending) (w' : World) : Prop := ∃ S F P A K, e = .returned (.pointer (some ⟨S, 0, none⟩)) ∧ Zq w w' S F g.ts.length P A K g p
set_option maxHeartbeats 8000000 in
set_option maxRecDepth 100000 in
theorem bd_any (g : Gx) (hok : OkG g) (p : Int) (a0 a1 a2 a3 a4 : Option Addr) (l0 l1 l2 l3 l4 c0 c1 c2 c3 c4 : Nat) (hl0 : g.ts.length = l0) (hl1 : g.gs.length = l1) (hl2 : g.sr.length = l2) (hl3 : g.ds.length = l3) (hl4 : g.kd.length = l4) (w : World) (har : Ar w g a0 a1 a2 a3 a4) :
    Calls Tryz.prog 10 #[.slice a0 l0 c0, .slice a1 l1 c1, .slice a2 l2 c2, .slice a3 l3 c3, .slice a4 l4 c4] w (BdE w g p) := by
  have HA := Lib.hid (And.intro har (And.intro hok (And.intro hl0 (And.intro hl1 (And.intro hl2 (And.intro hl3 hl4))))))
  have hn4 : l0 ≤ 4096 := by rw [← hl0]; exact hok.n4
  have HEC := Lib.hid (fun w => ec_any a2 a3 a4 l2 c2 l3 c3 l4 c4 w)
  obtain ⟨m, hm⟩ : ∃ m, min (min l2 l3) l4 = m := ⟨_, rfl⟩
  rw [hm] at HEC
  have HM : Hid (mE g = m ∧ m ≤ l2 ∧ m ≤ l3 ∧ m ≤ l4) := Lib.hid (by unfold mE; rw [hl2, hl3, hl4]; omega)
  have hm4 : m ≤ 4096 := by rw [← HM.out.1]; exact hok.m4
  have HSN := Lib.hid (sn_any l0 hn4 w)
  clear har hok hl0 hl1 hl2 hl3 hl4 hm
  go_enter Tryz.func10, Tryz.ntmps10
  go_upto_region 4 with (first
    | (go_at_call 9; refine (HEC.out _).mono ?_; rintro e w1 ⟨rfl, h1⟩; obtain rfl := h1.symm)
    | (go_at_call 15; refine HSN.out.mono ?_; rintro e w2 ⟨S, F, rfl, hs⟩; have HS := Lib.hid hs; clear hs))
  have H0 : Hid (Zq w w2 S F 0 (fun _ => 0) (fun _ => none) (fun _ => 0) g p) := Lib.hid (by
    have h := HS.out
    refine ⟨by rw [HA.out.2.2.1]; exact h.s, ⟨_, h.f, by simp [madeCells, HA.out.2.2.1], fun v hv => by omega, fun v _ hv => ?_⟩, fun v hv => by omega, fun v hv => by omega, h.lo, h.g⟩
    rw [HA.out.2.2.1] at hv
    exact ⟨by rw [made_at z90 27 l0 v 26 z90_size hv (by omega)]; exact z90_26, by rw [made_at z90 27 l0 v 22 z90_size hv (by omega)]; exact z90_22, by rw [made_at z90 27 l0 v 23 z90_size hv (by omega)]; exact z90_23, by rw [made_at z90 27 l0 v 24 z90_size hv (by omega)]; exact z90_24, by rw [made_at z90 27 l0 v 25 z90_size hv (by omega)]; exact z90_25⟩)
  clear HEC HSN HS
  go_wp2_with fail
  go_loopg [14] l0 (fun k x wx => ∃ i : Nat, x = .int .i64 (i : Int) ∧ i ≤ l0 ∧ l0 - i ≤ k ∧ Hid (∃ P A K, Zq w wx S F i P A K g p))
  case atStart => exact ⟨0, rfl, by omega, by omega, Lib.hid ⟨_, _, _, H0.out⟩⟩
  case round =>
    obtain ⟨i, rfl, hi, hk, HB⟩ := hrel
    obtain ⟨wz, rfl⟩ : ∃ wz : World, wz = wr := ⟨_, rfl⟩
    obtain ⟨gO, rfl⟩ : ∃ gO, gO = gk := ⟨_, rfl⟩
    rcases (show l0 = i ∨ i < l0 by omega) with he | hlt
    · subst he
      go_wp2_with fail
      go_ret
      obtain ⟨P, A, K, hz⟩ := HB.out
      exact ⟨S, F, P, A, K, rfl, by rw [HA.out.2.2.1]; exact hz⟩
    · obtain ⟨P, A, K, hzq⟩ := HB.out
      have HZ := Lib.hid hzq
      clear hzq HB
      have HARZ := Lib.hid (HA.out.1.kept (below_of HZ.out.g))
      have HFK := Lib.hid (fok_any a1 g.gs c1 l1 HA.out.2.2.2.1 i wz (fun h => HARZ.out.h1.at (by rw [HA.out.2.2.2.1]; exact h)))
      rw [show (!(g.gs.getD i false)) = prs g i from rfl] at HFK
      obtain ⟨b, hb⟩ : ∃ b, prs g i = b := ⟨_, rfl⟩
      rw [hb] at HFK
      have HPR := Lib.hid hb
      clear hb
      go_upto_if 35 with (go_at_call 13; refine HFK.out.mono ?_; rintro e w1 ⟨rfl, h1⟩; obtain rfl := h1.symm)
      cases b
      · go_wp2_with fail
        go_roundg (gO - 1)
        case measure => omega
        case rel => exact ⟨i + 1, by go_num, by omega, by omega, Lib.hid ⟨P, A, K, HZ.out.skip (by rw [HA.out.2.2.1]; exact hlt) HPR.out⟩⟩
      · go_wp2_with fail
        clear HFK
        go_loopg [15, 16] m (fun kk y x wx => ∃ e : Nat, x = .int .i64 (e : Int) ∧ e ≤ m ∧ m - e ≤ kk ∧ Hid (Rs wx wz.heap.size y g (esv g i e) ∧ wz.grownBy wx none))
        case atStart => exact ⟨0, rfl, by omega, by omega, Lib.hid ⟨World.ownsRow_nil .., gb_refl _ _⟩⟩
        case round =>
          obtain ⟨e, rfl, he, hkk, HR⟩ := hrel
          obtain ⟨yv, rfl⟩ : ∃ yv, yv = u15 := ⟨_, rfl⟩
          obtain ⟨wy, rfl⟩ : ∃ wy : World, wy = wr := ⟨_, rfl⟩
          obtain ⟨g2, rfl⟩ : ∃ g2, g2 = gk := ⟨_, rfl⟩
          rcases (show m = e ∨ e < m by omega) with hme | hlte
          · subst hme
            obtain ⟨ao, cap, hv, hr⟩ := HR.out.1.rw_
            subst hv
            have HZY := Lib.hid (HZ.out.grow HR.out.2)
            obtain ⟨b0, o0, hA0, lb0, ct⟩ := (HARZ.out.kept (below_of HR.out.2)).h0.at (i := i) (by rw [HA.out.2.2.1]; exact hlt)
            subst hA0
            obtain ⟨cs, f1, f2, f3, f4⟩ := HZY.out.f
            obtain ⟨ss, s1, s2⟩ := HZY.out.s
            obtain ⟨t, ht⟩ : ∃ t, g.ts.getD i false = t := ⟨_, rfl⟩
            rw [ht] at ct
            obtain ⟨ln, hln⟩ : ∃ ln, (esv g i m).length = ln := ⟨_, rfl⟩
            rw [HA.out.2.2.1] at f2 s2
            have HSJ := Lib.hid (fun t => sj_any S F l0 cs i t ao ln cap hlt hn4 wy ((s1.cell 11).trans s2) s1.lt f1 f2)
            rw [hln]
            have HF1 := Lib.hid f1
            have HLN := Lib.hid (And.intro hln (And.intro ht hr))
            clear f1 f2 f3 f4 s1 s2 hr hln ht
            have HNX : Hid (∀ wq, Laid wy wq F cs i (tlen g i) ao ln cap → ∃ P A K, Zq w wq S F (i + 1) P A K g p) := Lib.hid (fun wq hl => HZY.out.lay (by rw [HA.out.2.2.1]; exact hlt) HPR.out HF1.out (by rw [HM.out.1, HLN.out.1]; exact hl) (by rw [HM.out.1]; exact HLN.out.2.2))
            cases t
            · have HT : Hid (tlen g i = 0) := Lib.hid (by unfold tlen tlv; rw [HLN.out.2.1]; rfl)
              go_wp2_with (go_at_call 18; refine (HSJ.out 0).mono ?_; rintro e w5 ⟨rfl, hl⟩; have HNL := Lib.hid (HNX.out w5 (by rw [HT.out]; exact hl)); clear hl)
              go_roundg (gO - 1)
              case measure => omega
              case rel => exact ⟨i + 1, by go_num, by omega, by omega, HNL⟩
            · have HT : Hid (tlen g i = 5) := Lib.hid (by unfold tlen tlv; rw [HLN.out.2.1]; rfl)
              go_wp2_with (go_at_call 18; refine (HSJ.out 5).mono ?_; rintro e w5 ⟨rfl, hl⟩; have HNL := Lib.hid (HNX.out w5 (by rw [HT.out]; exact hl)); clear hl)
              go_roundg (gO - 1)
              case measure => omega
              case rel => exact ⟨i + 1, by go_num, by omega, by omega, HNL⟩
          · obtain ⟨b2, o2, hA2, lb2, cs2⟩ := (HARZ.out.kept (below_of HR.out.2)).h2.at (i := e) (by rw [HA.out.2.2.2.2.1]; have := HM.out; omega)
            subst hA2
            obtain ⟨t, ht⟩ : ∃ t, nth g.sr e = t := ⟨_, rfl⟩
            have ht2 : 0 ≤ t ∧ t < 65536 := by rw [← ht]; exact HA.out.2.1.s e (by rw [HM.out.1]; exact hlte)
            rw [ht] at cs2
            have hwt : IntKind.i64.wrap t = t := by rw [IntKind.wrap_i64]; omega
            have HT := Lib.hid ht
            clear ht
            have hel2 : e < l2 := by have := HM.out; omega
            have hel3 : e < l3 := by have := HM.out; omega
            have hel4 : e < l4 := by have := HM.out; omega
            by_cases hti : t = (i : Int)
            · subst hti
              have HES := Lib.hid (esv_snoc g i e)
              obtain ⟨X, hX⟩ : ∃ X, wy.heap.size = X := ⟨_, rfl⟩
              go_upto_region 14 with fail
              try rw [hX]
              have H3 : Hid (Blk (wy.alloc (.cells #[.int .u32 0] 45)) X 45 #[.int .u32 0] ∧ wy.grownBy (wy.alloc (.cells #[.int .u32 0] 45)) none) := Lib.hid (by
                have h := Blk.new wy 45 #[.int .u32 0]
                rw [hX] at h
                exact ⟨h, gb_al _ _⟩)
              have HX := Lib.hid hX
              clear hX cs2 lb2 ht2 hwt
              generalize wy.alloc (.cells #[.int .u32 0] 45) = w3 at H3 ⊢
              obtain ⟨b3, o3, hA3, lb3, cs3⟩ := ((HARZ.out.kept (below_of HR.out.2)).kept (below_of H3.out.2)).h3.at (i := e) (by rw [HA.out.2.2.2.2.2.1]; have := HM.out; omega)
              subst hA3
              obtain ⟨u, hu⟩ : ∃ u, nth g.ds e = u := ⟨_, rfl⟩
              have hu2 : 0 ≤ u ∧ u < 65536 := by rw [← hu]; exact HA.out.2.1.d e (by rw [HM.out.1]; exact hlte)
              rw [hu] at cs3
              have hwu : IntKind.i64.wrap u = u := by rw [IntKind.wrap_i64]; omega
              have hwv : IntKind.u32.wrap u = u := by rw [IntKind.wrap_u32]; omega
              have HU := Lib.hid hu
              clear hu
              go_upto_if 54 with fail
              go_cut [] (fun wc => Hid (Blk wc X 45 #[.int .u32 (flx g e)] ∧ wy.grownBy wc none))
              case first =>
                by_cases hul : u < (l0 : Int)
                · have hfl : flx g e = 4294967295 - u := by unfold flx; rw [HU.out, HA.out.2.2.1, if_pos hul]
                  rw [show decide (u < (l0 : Int)) = true by simp [hul]]
                  have HMK := Lib.hid (mk_any u hu2.1 (by omega))
                  have HFL := Lib.hid hfl
                  clear hfl hul
                  go_wp2_with (go_at_call 16; refine (HMK.out _).mono ?_; rintro e w4 ⟨rfl, hg⟩; have hb4 := H3.out.1.gb hg (by simp); have k0 := (hb4.cell 0).trans rfl; have f0 := hb4.free 0; have l0 := hb4.lt; have H4 := Lib.hid (And.intro hb4 hg); clear hb4 hg)
                  go_meet
                  have hs := H4.out.1.set 0 (.int .u32 (4294967295 - u))
                  exact Lib.hid ⟨by rw [HFL.out]; simpa using hs, gb_new (gb_trans (gb_none (gb_trans H3.out.2 H4.out.2)) (gb_set (gb_refl _ _) _ _ _)) (Nat.le_of_eq HX.out)⟩
                · have hfl : flx g e = 0 := by unfold flx; rw [HU.out, HA.out.2.2.1, if_neg hul]
                  rw [show decide (u < (l0 : Int)) = false by simp [hul]]
                  have HFL := Lib.hid hfl
                  clear hul hfl
                  go_wp2_with fail
                  go_meet
                  exact Lib.hid ⟨by rw [HFL.out]; exact H3.out.1, H3.out.2⟩
              case rest =>
                obtain ⟨w5, rfl⟩ : ∃ w5 : World, w5 = wc := ⟨_, rfl⟩
                have H5 := hcut
                clear hcut H3 cs3 lb3 hu2 hwu hwv
                obtain ⟨b4, o4, hA4, lb4, cs4⟩ := HARZ.out.h4.at (i := e) (by rw [HA.out.2.2.2.2.2.2]; have := HM.out; omega)
                subst hA4
                obtain ⟨kv, hkv⟩ : ∃ kv, nth g.kd e = kv := ⟨_, rfl⟩
                have hk2 : 0 ≤ kv ∧ kv < 256 := by rw [← hkv]; exact HA.out.2.1.k e (by rw [HM.out.1]; exact hlte)
                rw [hkv] at cs4
                obtain ⟨x, hx⟩ : ∃ x, flx g e = x := ⟨_, rfl⟩
                have Q0 : Hid (w5.cell? ⟨X, 0, none⟩ = some (.int .u32 x)) := Lib.hid (by rw [← hx]; exact H5.out.1.cell 0)
                have HKD : Hid (kdv g e = kd3 kv) := Lib.hid (by unfold kdv kd3; rw [hkv])
                have HKN := Lib.hid (fun w => kind_any kv hk2.1 hk2.2 w)
                have HXX := Lib.hid hx
                clear hx hkv hk2
                obtain ⟨kk, hkk⟩ : ∃ kk, kd3 kv = kk := ⟨_, rfl⟩
                rw [hkk] at HKN HKD
                clear hkk
                have KF := Lib.hid (show ∀ w' : World, wz.grownBy w' none → w'.cell? ⟨b4, o4 + e, none⟩ = some (.int .u8 kv) from fun w' h => cellN h cs4)
                have hiK : ((e : Int) < (l4 : Int)) := by omega
                have hGZ : wz.grownBy w5 none := gb_trans HR.out.2 H5.out.2
                have HRS := Lib.hid (HR.out.1.gb H5.out.2)
                have HOB : Hid (∀ b, yv.ownBlock = some b → wz.heap.size ≤ b ∧ b ≠ X) := Lib.hid (fun b hb => by have h := HR.out.1.lt b hb; have h2 := HX.out; omega)
                clear cs4 lb4
                go_upto_region 16 with fail
                refine wp_region_held_drew (S := fun w' => wz.grownBy w' none ∧ w'.cell? ⟨X, 0, none⟩ = some (.int .u32 x)) (by kernel_rfl) ⟨gb_trans hGZ (gb_drew1 w5), Q0.out⟩ (fun hH => ?_)
                refine wpAnyH_take (i := 0) (v := yv) rfl (by kernel_rfl) (by kernel_rfl) (by kernel_rfl) (fun _ _ _ h => h) (Or.inl ⟨by rfl, fun w' hw' => by go_simp⟩) hH ?_
                (try simp only [Act.put])
                refine wpAnyH_take (i := 1) (v := .slice (some ⟨b4, o4, none⟩) l4 c4) rfl (by kernel_rfl) (by kernel_rfl) (by kernel_rfl) (fun _ _ _ h => h) (Or.inl ⟨by rfl, fun w' hw' => by go_simp⟩) hH ?_
                (try simp only [Act.put])
                refine wpAnyH_take (i := 2) (v := .int .i64 (e : Int)) rfl (by kernel_rfl) (by kernel_rfl) (by kernel_rfl) (fun _ _ _ h => h) (Or.inl ⟨by rfl, fun w' hw' => by go_simp⟩) hH ?_
                (try simp only [Act.put])
                refine wpAnyH_take (i := 3) (v := .pointer (some ⟨b4, o4 + e, none⟩)) rfl (by kernel_rfl) (by kernel_rfl) (by kernel_rfl) (fun _ _ _ h => h) (Or.inl ⟨by rfl, fun w' hw' => by go_simp⟩) hH ?_
                (try simp only [Act.put])
                refine wpAnyH_take (i := 4) (v := .int .u8 kv) rfl (by kernel_rfl) (by kernel_rfl) (by kernel_rfl) (fun _ _ _ h => h) (Or.inl ⟨by rfl, fun w' hw' => by have s1 := KF.out w' hw'.1; go_simp⟩) hH ?_
                (try simp only [Act.put])
                refine wpAnyH_take (i := 6) (v := .agg #[.int .u32 x]) rfl (by kernel_rfl) (by kernel_rfl) (by kernel_rfl) (fun _ _ _ h => h) (Or.inl ⟨by rfl, fun w' hw' => by have s1 := hw'.2; go_simp⟩) hH ?_
                (try simp only [Act.put])
                refine wpAnyH_ready (rs := [5]) (by kernel_rfl) (by simp) ?_
                refine AllReadyH.cons rfl (fun K' hK => ?_) AllReadyH.nil
                go_simp
                refine (HKN.out _).mono ?_
                rintro e7 w7 ⟨rfl, h7⟩
                obtain rfl := h7.symm
                go_wp2_with fail
                refine hK.out _ _ hH (fun _ => ?_)
                refine wpAnyH_take (i := 7) rfl (by kernel_rfl) (by kernel_rfl) (by kernel_rfl) (fun _ _ _ h => h) (yieldsIf_build (by rfl) 63 _ rfl [(9, .int .u8 kk), (5, .agg #[.int .u32 x])] rfl #[.pointer none, .pointer none, .string ⟨#[]⟩, .string ⟨#[]⟩, .string ⟨#[]⟩, .string ⟨#[]⟩, .int .u8 0, .int .i32 0, .int .i32 0, .int .i32 0, .int .u32 x, .int .u32 0, .int .u16 0, .int .u8 0, .int .u8 kk] (build63 kk x)) hH ?_
                (try simp only [Act.put])
                refine wpAnyH_ready (rs := [8]) (by kernel_rfl) (by simp) ?_
                refine AllReadyH.cons rfl (fun K' hK => ?_) AllReadyH.nil
                go_simp
                obtain ⟨w6, hw6⟩ : ∃ w6, (w5.alloc (.cells #[.pointer none, .pointer none, .string ⟨#[]⟩, .string ⟨#[]⟩, .string ⟨#[]⟩, .string ⟨#[]⟩, .int .u8 0, .int .i32 0, .int .i32 0, .int .i32 0, .int .u32 x, .int .u32 0, .int .u16 0, .int .u8 0, .int .u8 kk] 63)).drew = w6 := ⟨_, rfl⟩
                obtain ⟨Y, hY⟩ : ∃ Y, w5.heap.size = Y := ⟨_, rfl⟩
                have H6 : Hid (Blk w6 Y 63 #[.pointer none, .pointer none, .string ⟨#[]⟩, .string ⟨#[]⟩, .string ⟨#[]⟩, .string ⟨#[]⟩, .int .u8 0, .int .i32 0, .int .i32 0, .int .i32 0, .int .u32 x, .int .u32 0, .int .u16 0, .int .u8 0, .int .u8 kk] ∧ w5.grownBy w6 none ∧ wz.grownBy w6 none ∧ w6.cell? ⟨X, 0, none⟩ = some (.int .u32 x)) := Lib.hid (by
                  have hg : w5.grownBy w6 none := by rw [← hw6]; exact gb_trans (gb_al _ _) (gb_drew1 _)
                  refine ⟨?_, hg, gb_trans hGZ hg, cellN hg Q0.out⟩
                  have h := Blk.new w5 63 #[.pointer none, .pointer none, .string ⟨#[]⟩, .string ⟨#[]⟩, .string ⟨#[]⟩, .string ⟨#[]⟩, .int .u8 0, .int .i32 0, .int .i32 0, .int .i32 0, .int .u32 x, .int .u32 0, .int .u16 0, .int .u8 0, .int .u8 kk]
                  rw [hY] at h
                  rw [← hw6]
                  exact h)
                rw [hw6, hY]
                clear hw6 hY
                refine hK.out _ _ H6.out.2.2 (fun _ => ?_)
                refine wpAnyH_ready (rs := [9]) (by kernel_rfl) (by simp) ?_
                refine AllReadyH.cons rfl (fun K' hK => ?_) AllReadyH.nil
                obtain ⟨i0, hi0, hz0, hz1, hz2⟩ := info_parts zinfo63
                refine step_append (by rfl) _ _ 43 rfl wz.heap.size 63 i0 _ 15 112 Tryz.underlying43 hi0 hz0 hz1 hz2 rfl (by decide) yv (esv g i e).length (rws g (esv g i e)) rfl (HRS.out.gb H6.out.2.1) ⟨Y, 0, none⟩ 1 1 (rowL kk x) rfl rfl ?_ ?_ ?_ ?_ H6.out.2.2.1.size ?_
                · intro j u hj
                  have hjl : j < 15 := (List.getElem?_eq_some_iff.1 hj).1
                  rw [addr0 Y j]
                  exact (H6.out.1.cell j).trans (by rw [← hj]; simp [rowL])
                · intro u hu
                  simp [rowL] at hu
                  rcases hu with rfl | rfl | rfl | rfl | rfl | rfl | rfl | rfl | rfl | rfl | rfl | rfl <;> rfl
                · have := esv_len g i e; unfold maxLen; omega
                · have := esv_len g i e; omega
                · intro v' w7 hr hg
                  have H7 : Hid (Rs w7 wz.heap.size v' g (esv g i (e + 1)) ∧ wz.grownBy w7 none ∧ w7.cell? ⟨X, 0, none⟩ = some (.int .u32 x)) := Lib.hid (by
                    refine ⟨?_, ?_, ?_⟩
                    · rw [HES.out, if_pos HT.out]
                      show w7.ownsRow wz.heap.size 63 15 v' (esv g i e ++ [e]).length (rws g (esv g i e ++ [e]))
                      rw [rws_snoc, List.length_append, HKD.out, HXX.out]
                      exact hr
                    · cases ho : yv.ownBlock with
                      | none => rw [ho] at hg; exact gb_trans H6.out.2.2.1 hg
                      | some b => rw [ho] at hg; exact gb_new (gb_trans (gb_none H6.out.2.2.1) hg) (HOB.out b ho).1
                    · have hl := World.block_lt_of_cell? w6 _ H6.out.2.2.2
                      rw [← H6.out.2.2.2]
                      exact World.cell?_of_block (hg.block X hl (fun h => (HOB.out X h.symm).2 rfl)))
                  clear hr hg
                  refine hK.out _ _ H7.out.2 (fun _ => ?_)
                  (try simp only [Act.put])
                  refine wpAnyH_take (i := 10) (v := v') rfl (by kernel_rfl) (by kernel_rfl) (by kernel_rfl) (fun _ _ _ h => h) (Or.inl ⟨by rfl, fun w' hw' => by go_simp⟩) H7.out.2 ?_
                  (try simp only [Act.put])
                  refine wpAnyH_done (by kernel_rfl) ?_ _
                  go_simp
                  go_wp2_with fail
                  go_roundg (g2 - 1)
                  case measure => omega
                  case rel => exact ⟨e + 1, by go_num, by omega, by omega, Lib.hid ⟨H7.out.1, H7.out.2.1⟩⟩
            · have hne : (t == (i : Int)) = false := by simp [hti]
              have HNE := Lib.hid hti
              clear hti
              go_wp2_with fail
              go_roundg (g2 - 1)
              case measure => omega
              case rel =>
                refine ⟨e + 1, by go_num, by omega, by omega, Lib.hid ⟨?_, HR.out.2⟩⟩
                rw [esv_snoc, if_neg (by rw [HT.out]; exact HNE.out)]
                exact HR.out.1
end Go.Proofs.YtffilaoipcjcmaaGreat
