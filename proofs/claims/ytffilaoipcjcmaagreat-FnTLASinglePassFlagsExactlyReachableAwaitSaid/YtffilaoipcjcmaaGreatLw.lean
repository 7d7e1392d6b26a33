/-
  The law, walked. No statement of the seat is proved here.
-/
import Derived.Test.YtffilaoipcjcmaaGreatBd
import Derived.Test.YtffilaoipcjcmaaGreatWp
import Derived.Test.YtffilaoipcjcmaaGreatStk
import Derived.Lib.SliceRun
namespace Go.Proofs.YtffilaoipcjcmaaGreat
open Go.RowKit
set_option linter.unusedVariables false
set_option linter.unusedSimpArgs false

theorem zinfo3 : (Tryz.prog.info? 3).map (fun i => (i.zero, i.size, i.bytes)) = some (some (.int .i64 0), 1, 8) := by kernel_rfl
theorem size3 (w : World) : (sizeOf (Tryz.prog.elem 39)).run Tryz.prog w = .ok 1 w := by kernel_rfl
theorem elem39 : Tryz.prog.elem 39 = 3 := by kernel_rfl
theorem und39 : Tryz.prog.underlying 39 = some (.slice (Tryz.prog.elem 39)) := by rw [elem39]; exact Tryz.underlying39
/-- stack[:k] -/
theorem st_to (g n cap k : Nat) (hk : k ≤ cap) (w : World) : (Instr.sliceAt 39 (.slice (some ⟨g, 0, none⟩) n cap) none (some (.int .i64 (k : Int))) none).run Tryz.prog w = .ok (.slice (some ⟨g, 0, none⟩) k cap) w := by
  rw [run_sliceAt_slice w 39 _ _ _ _ und39, run_slice_h w 39 _ n cap und39 .i64 (k : Int) (by omega) (by omega), size3]
  simp [Result.andThen, sliced, Addr.add]
theorem st_to2 (g n cap k : Nat) (hk : k ≤ cap) (w : World) : (Instr.slice 39 (.slice (some ⟨g, 0, none⟩) n cap) none (some (.int .i64 (k : Int))) none).run Tryz.prog w = .ok (.slice (some ⟨g, 0, none⟩) k cap) w := by
  rw [← run_sliceAt_slice w 39 _ _ _ _ und39]; exact st_to g n cap k hk w
/-- the list of stacked files as numbers -/
def zof (st : List Nat) : List Int := st.map (fun v : Nat => (v : Int))
theorem zof_snoc (st : List Nat) (v : Nat) : zof (st ++ [v]) = zof st ++ [(v : Int)] := by simp [zof]
theorem zof_len (st : List Nat) : (zof st).length = st.length := by simp [zof]
/-- seen files in memory, the stack -/
structure Wk (wx : World) (n Q B : Nat) (q : Nat → Bool) (v : Value) (st : List Nat) : Prop where
  seen : ∃ qs, Blk wx Q 4 qs ∧ qs.size = n ∧ ∀ u, u < n → qs[u]? = some (.bool (q u))
  stk : Own .i64 3 wx B v (zof st)
  lt : ∀ u, u ∈ st → u < n
  len : st.length + cnt q n ≤ n
  hq : Q < B
  hb : B ≤ wx.heap.size
theorem Wk.gb {wx wy : World} {n Q B : Nat} {q : Nat → Bool} {v : Value} {st : List Nat} (h : Wk wx n Q B q v st) (hg : wx.grownBy wy none) : Wk wy n Q B q v st := by
  obtain ⟨qs, h1, h2⟩ := h.seen
  exact ⟨⟨qs, h1.gb hg (by simp), h2⟩, h.stk.gb hg (by cases v.ownBlock <;> simp), h.lt, h.len, h.hq, Nat.le_trans h.hb hg.size⟩
theorem Wk.mark {w : World} {n Q B : Nat} {q : Nat → Bool} {v : Value} {st : List Nat} (h : Wk w n Q B q v st) {c : Nat} (hc : c < n) (hq : q c = false) :
    Wk (w.setCell ⟨Q, c, none⟩ (.bool true)) n Q B (fun u => q u || u == c) v st ∧ st.length + 1 + cnt (fun u => q u || u == c) n ≤ n := by
  have hm := cnt_mark hq n hc
  have hl := h.len
  have hg : w.grownBy (w.setCell ⟨Q, c, none⟩ (.bool true)) (some Q) := gb_set (gb_refl _ _) _ _ _
  obtain ⟨qs, h1, h2, h3⟩ := h.seen
  refine ⟨⟨⟨_, h1.set c (.bool true), by simp [h2], fun u hu => ?_⟩, h.stk.gb hg ?_, h.lt, by omega, h.hq, by simpa using h.hb⟩, by omega⟩
  · by_cases e : u = c
    · subst e; rw [Array.getElem?_setIfInBounds_self_of_lt (by omega)]; simp
    · rw [Array.getElem?_setIfInBounds_ne (by omega), h3 u hu]; simp [e]
  · cases ho : v.ownBlock with
    | none => exact .inl rfl
    | some b =>
      refine .inr (fun e => ?_)
      have h1 := (h.stk.lt b ho).1
      have h2 := Option.some.inj e
      have h3 := h.hq
      omega
theorem Wk.push {w w' : World} {n Q B : Nat} {q : Nat → Bool} {v v' : Value} {st : List Nat} (h : Wk w n Q B q v st) {c : Nat} (hc : c < n) (hl : st.length + 1 + cnt q n ≤ n) (ho : Own .i64 3 w' B v' (zof st ++ [(c : Int)])) (hg : w.grownBy w' v.ownBlock) : Wk w' n Q B q v' (st ++ [c]) := by
  obtain ⟨qs, h1, h2, h3⟩ := h.seen
  refine ⟨⟨qs, h1.gb hg (fun e => ?_), h2, h3⟩, by rw [zof_snoc]; exact ho, fun u hu => ?_, by simp; omega, h.hq, Nat.le_trans h.hb hg.size⟩
  · have h4 := (h.stk.lt Q e.symm).1
    have h5 := h.hq
    omega
  · rcases List.mem_append.1 hu with hu | hu
    · exact h.lt u hu
    · have : u = c := by simpa using hu
      omega
theorem gb_own {w0 w w' : World} {v : Value} (h : w0.grownBy w none) (hg : w.grownBy w' v.ownBlock) (hv : ∀ b, v.ownBlock = some b → w0.heap.size ≤ b) : w0.grownBy w' none := by
  cases ho : v.ownBlock with
  | none => rw [ho] at hg; exact gb_trans h hg
  | some b => rw [ho] at hg; exact gb_new (gb_trans (gb_none h) hg) (hv b ho)
/-- the plain side: on: does the worklist begin? -/
def Wv (on : Prop) (g : Gx) (r : Nat) (q : Nat → Bool) (st : List Nat) (cur : Nat → Prop) : Prop :=
  (on → WI (EE g) r (fun v => q v && prs g v) st cur) ∧ (¬ on → (∀ v, q v = false) ∧ st = [])
theorem Wv.begin_ {g : Gx} {r : Nat} (hp : prs g r = true) : Wv (true = true) g r (fun u => false || u == r) ([] ++ [r]) (fun _ => False) := by
  refine ⟨fun _ => ?_, fun h => absurd rfl h⟩
  have h := WI.init (E := EE g) (r := r)
  have e : (fun v => (false || v == r) && prs g v) = (fun v => v == r) := by
    funext v
    by_cases hv : v = r
    · subst hv; simp [hp]
    · simp [hv]
  rw [e]
  exact h
/-- in the end: what the worklist has seen is what the pass has marked -/
theorem Wv.last {g : Gx} {r : Nat} {p : Int} {onb : Bool} {q d' : Nat → Bool} (hon : onb = true ↔ (p ≠ 0 ∧ prs g r = true)) (h : Wv (onb = true) g r q [] (fun _ => False)) (hr : Rt g p r d') (v : Nat) : (q v && prs g v) = d' v := by
  cases hb : onb with
  | true =>
    have h1 := (h.1 hb).last v
    have h2 := hr.1 (hon.1 hb) v
    rw [Bool.eq_iff_iff, h1, h2]
    have e1 : (fun x : Nat => (fun _ : Nat => false) x = true) = (fun _ => False) := by funext x; simp
    rw [e1]
    constructor
    · intro h; exact .inr h
    · rintro (h | h)
      · simp at h
      · exact h
  | false =>
    have hn : ¬ onb = true := by simp [hb]
    rw [(h.2 hn).1 v, hr.2 (fun h => hn (hon.2 h))]
    rfl
/-- the edges of v among the first e: their heads are seen -/
def Pr (g : Gx) (v : Nat) (q : Nat → Bool) (e : Nat) : Prop := ∀ e', e' < e → nth g.sr e' = (v : Int) → ¬ nth g.kd e' % 3 = 2 → ∀ c : Nat, nth g.ds e' = (c : Int) → c < g.ts.length → prs g c = true → q c = true
theorem Pr.step {g : Gx} {v : Nat} {q : Nat → Bool} {e : Nat} (h : Pr g v q e) (he : nth g.sr e = (v : Int) → ¬ nth g.kd e % 3 = 2 → ∀ c : Nat, nth g.ds e = (c : Int) → c < g.ts.length → prs g c = true → q c = true) : Pr g v q (e + 1) := fun e' h1 h2 h3 c h4 h5 h6 => by
  rcases (show e' < e ∨ e' = e by omega) with h0 | rfl
  · exact h e' h0 h2 h3 c h4 h5 h6
  · exact he h2 h3 c h4 h5 h6
theorem Pr.mono {g : Gx} {v : Nat} {q q' : Nat → Bool} {e : Nat} (h : Pr g v q e) (hq : ∀ u, q u = true → q' u = true) : Pr g v q' e := fun e' h1 h2 h3 c h4 h5 h6 => hq c (h e' h1 h2 h3 c h4 h5 h6)
/-- what holds ahead of each edge -/
structure Wi (g : Gx) (r v Q B gO e : Nat) (w9 wx : World) (y : Value) (q : Nat → Bool) (st : List Nat) : Prop where
  wk : Wk wx g.ts.length Q B q y st
  wi : WI (EE g) r (fun u => q u && prs g u) st (fun x => x = v)
  sv : q v = true ∧ prs g v = true
  gr : w9.grownBy wx none
  le : st.length + cnt q g.ts.length + 1 ≤ gO
  pr : Pr g v q e
theorem Wi.seen {g : Gx} {r v Q B gO e : Nat} {w9 wx : World} {y : Value} {q : Nat → Bool} {st : List Nat} (h : Wi g r v Q B gO e w9 wx y q st) (hp : Pr g v q (e + 1)) : Wi g r v Q B gO (e + 1) w9 wx y q st := ⟨h.wk, h.wi, h.sv, h.gr, h.le, hp⟩
/-- a file that is gone is seen -/
theorem Wi.gone {g : Gx} {r v Q B gO e c : Nat} {w9 wx : World} {y : Value} {q : Nat → Bool} {st : List Nat} (h : Wi g r v Q B gO e w9 wx y q st) (hc : c < g.ts.length) (hq : q c = false) (hp : prs g c = false) (hd : nth g.ds e = (c : Int)) (hQ : w9.heap.size ≤ Q) : Wi g r v Q B gO (e + 1) w9 (wx.setCell ⟨Q, c, none⟩ (.bool true)) y (fun u => q u || u == c) st := by
  obtain ⟨h1, h2⟩ := h.wk.mark hc hq
  have hm := cnt_mark hq g.ts.length hc
  have hl := h.le
  have e1 : (fun u => (q u || u == c) && prs g u) = (fun u => q u && prs g u) := by
    funext u
    by_cases hu : u = c
    · rw [hu, hp]; simp
    · have h0 : (u == c) = false := by simp [hu]
      rw [h0]; simp
  refine ⟨h1, by rw [e1]; exact h.wi, ⟨by simp [h.sv.1], h.sv.2⟩, gb_new (gb_trans (gb_none h.gr) (gb_set (gb_refl _ _) _ _ _)) hQ, by omega, (h.pr.mono (fun u hu => by simp [hu])).step (fun _ _ c' hc' _ hp' => ?_)⟩
  have : c' = c := by omega
  simp [this]
/-- a file that is there is seen and stacked -/
theorem Wi.there {g : Gx} {r v Q B gO e c : Nat} {w9 wx wy : World} {y y' : Value} {q : Nat → Bool} {st : List Nat} (hok : OkG g) (he : e < mE g) (h : Wi g r v Q B gO e w9 wx y q st) (hc : c < g.ts.length) (hq : q c = false) (hp : prs g c = true) (hs : nth g.sr e = (v : Int)) (hk : ¬ nth g.kd e % 3 = 2) (hd : nth g.ds e = (c : Int)) (hQ : w9.heap.size ≤ Q)
    (ho : Own .i64 3 wy B y' (zof st ++ [(c : Int)])) (hg : (wx.setCell ⟨Q, c, none⟩ (.bool true)).grownBy wy y.ownBlock) : Wi g r v Q B gO (e + 1) w9 wy y' (fun u => q u || u == c) (st ++ [c]) := by
  obtain ⟨h1, h2⟩ := h.wk.mark hc hq
  have hm := cnt_mark hq g.ts.length hc
  have hl := h.le
  have hw := h.wi.mark (v := v) (c := c) (by simp [h.sv]) ((EE_iff hok).2 ⟨e, he, hs, hk, hd, hc, hp⟩)
  have e1 : (fun u => (q u || u == c) && prs g u) = (fun u => (q u && prs g u) || u == c) := by
    funext u
    by_cases hu : u = c
    · rw [hu, hp]; simp
    · have h0 : (u == c) = false := by simp [hu]
      rw [h0]; simp
  refine ⟨h1.push hc h2 ho hg, by rw [e1]; exact hw, ⟨by simp [h.sv.1], h.sv.2⟩, gb_own (gb_new (gb_trans (gb_none h.gr) (gb_set (gb_refl _ _) _ _ _)) hQ) hg (fun b hb => ?_), by simp; omega, (h.pr.mono (fun u hu => by simp [hu])).step (fun _ _ c' hc' _ hp' => ?_)⟩
  · have h3 := (h.wk.stk.lt b hb).1
    have h4 := h.wk.hq
    omega
  · have : c' = c := by omega
    simp [this]
theorem Wi.done {g : Gx} {r v Q B gO e : Nat} {w9 wx : World} {y : Value} {q : Nat → Bool} {st : List Nat} (hok : OkG g) (h : Wi g r v Q B gO e w9 wx y q st) (he : e = mE g) : WI (EE g) r (fun u => q u && prs g u) st (fun _ => False) := by
  refine h.wi.done (fun c hc => ?_)
  obtain ⟨e', h1, h2, h3, h4, h5, h6⟩ := (EE_iff hok).1 hc
  have := h.pr e' (by omega) h2 h3 c h4 h5 h6
  simp [this, h6]
theorem and_tt {a b : Bool} (h : (a && b) = true) : a = true ∧ b = true := by simpa using h
theorem cnt_all : ∀ n, cnt (fun _ => false) n = n
  | 0 => rfl
  | n + 1 => by unfold cnt; rw [cnt_all n]; simp
set_option maxHeartbeats 8000000 in
set_option maxRecDepth 100000 in
theorem law_any (g : Gx) (a0 a1 a2 a3 a4 : Option Addr) (l0 l1 l2 l3 l4 c0 c1 c2 c3 c4 : Nat) (hl0 : g.ts.length = l0) (hl1 : g.gs.length = l1) (hl2 : g.sr.length = l2) (hl3 : g.ds.length = l3) (hl4 : g.kd.length = l4)
    (hsr : ∀ e, e < l2 → 0 ≤ nth g.sr e ∧ nth g.sr e < 65536) (hds : ∀ e, e < l3 → 0 ≤ nth g.ds e ∧ nth g.ds e < 65536) (hkd : ∀ e, e < l4 → 0 ≤ nth g.kd e ∧ nth g.kd e < 256)
    (r : Nat) (hr : r < 65536) (p : Int) (hp : 0 ≤ p ∧ p < 4294967296) (w : World) (har : Ar w g a0 a1 a2 a3 a4) :
    Calls Tryz.prog 3 #[.slice a0 l0 c0, .slice a1 l1 c1, .slice a2 l2 c2, .slice a3 l3 c3, .slice a4 l4 c4, .int .u16 (r : Int), .int .u32 p] w fun e w' => e = .returned (.bool true) ∧ Below w.heap.size w w' := by
  have HL := Lib.hid (And.intro hl0 (And.intro hl1 (And.intro hl2 (And.intro hl3 hl4))))
  have HV := Lib.hid (And.intro hsr (And.intro hds hkd))
  have HA := Lib.hid har
  have HP := Lib.hid hp
  have HZB := Lib.hid (zb_any a0 a1 a2 a3 a4 l0 c0 l1 c1 l2 c2 l3 c3 l4 c4 r p w)
  have HTB := Lib.hid (tb_any a0 a1 a2 a3 a4 l0 c0 l1 c1 l2 c2 l3 c3 l4 c4 w)
  clear hl0 hl1 hl2 hl3 hl4 hsr hds hkd har hp
  go_enter Tryz.func3, Tryz.ntmps3
  go_upto_if 48 with (go_at_call 4; refine HZB.out.mono ?_; rintro e w2 ⟨⟨bb, rfl⟩, h2⟩; obtain rfl := h2.symm)
  cases bb
  · go_wp2_with fail
    go_ret
    exact ⟨rfl, Below.refl _ _⟩
  go_upto_if 54 with (go_at_call 5; refine HTB.out.mono ?_; rintro e w3 ⟨⟨bb, rfl, hb⟩, h3⟩; have HB := Lib.hid hb; clear hb; obtain rfl := h3.symm)
  cases bb
  case true =>
    go_wp2_with fail
    go_ret
    exact ⟨rfl, Below.refl _ _⟩
  have HN4 := Lib.hid (HB.out rfl)
  have hn4 : l0 ≤ 4096 := HN4.out.1
  have hwr : IntKind.i64.wrap (r : Int) = (r : Int) := by rw [IntKind.wrap_i64]; omega
  have hwu : IntKind.u32.wrap (r : Int) = (r : Int) := by rw [IntKind.wrap_u32]; omega
  clear HZB HTB HB
  by_cases hrn : l0 ≤ r
  · have e1 : decide (l0 ≤ r) = true := by simp [hrn]
    go_wp2_with fail
    go_ret
    exact ⟨rfl, Below.refl _ _⟩
  have e1 : decide (l0 ≤ r) = false := by simp; omega
  have hrl : r < l0 := by omega
  clear hrn
  go_upto_region 8 with fail
  clear e1
  have HC0 := Lib.hid (bs_any a0 c0 g.ts w HA.out.h0 (by rw [HL.out.1]; omega))
  rw [HL.out.1] at HC0
  go_upto_region 9 with (go_at_call 6; refine HC0.out.mono ?_; rintro e w1 ⟨b0, d0, rfl, hi, hb⟩; have H1 := Lib.hid (And.intro hi hb); clear hi hb)
  rw [HL.out.1]
  have HC1 := Lib.hid (bs_any a1 c1 g.gs w1 (HA.out.h1.kept H1.out.2) (by have := HN4.out; rw [HL.out.2.1]; omega))
  rw [HL.out.2.1] at HC1
  go_upto_region 10 with (go_at_call 6; refine HC1.out.mono ?_; rintro e w2 ⟨b1, d1, rfl, hi, hb⟩; have H2 := Lib.hid (And.intro hi hb); clear hi hb)
  rw [HL.out.2.1]
  have HC2 := Lib.hid (c7_any a2 c2 g.sr w2 ((HA.out.h2.kept H1.out.2).kept (H2.out.2)) (by have := HN4.out; rw [HL.out.2.2.1]; omega))
  rw [HL.out.2.2.1] at HC2
  go_upto_region 11 with (go_at_call 7; refine HC2.out.mono ?_; rintro e w3 ⟨b2, d2, rfl, hi, hb⟩; have H3 := Lib.hid (And.intro (Cloned.in' hi) hb); clear hi hb)
  rw [HL.out.2.2.1]
  have HC3 := Lib.hid (c7_any a3 c3 g.ds w3 (((HA.out.h3.kept H1.out.2).kept (H2.out.2)).kept H3.out.2) (by have := HN4.out; rw [HL.out.2.2.2.1]; omega))
  rw [HL.out.2.2.2.1] at HC3
  go_upto_region 12 with (go_at_call 7; refine HC3.out.mono ?_; rintro e w4 ⟨b3, d3, rfl, hi, hb⟩; have H4 := Lib.hid (And.intro (Cloned.in' hi) hb); clear hi hb)
  rw [HL.out.2.2.2.1]
  have HC4 := Lib.hid (c8_any a4 c4 g.kd w4 ((((HA.out.h4.kept H1.out.2).kept (H2.out.2)).kept H3.out.2).kept H4.out.2) (by have := HN4.out; rw [HL.out.2.2.2.2]; omega))
  rw [HL.out.2.2.2.2] at HC4
  go_upto_region 13 with (go_at_call 8; refine HC4.out.mono ?_; rintro e w5 ⟨b4, d4, rfl, hi, hb⟩; have H5 := Lib.hid (And.intro (Cloned.in' hi) hb); clear hi hb)
  rw [HL.out.2.2.2.2]
  have HA5 : Hid (Ar w5 g b0 b1 b2 b3 b4 ∧ Below w.heap.size w w5) := Lib.hid (by
    have k2 := H2.out.2
    have k3 := H3.out.2
    have k4 := H4.out.2
    have k5 := H5.out.2
    have s1 := H1.out.2.size
    have s2 := k2.size
    have s3 := k3.size
    have s4 := k4.size
    exact ⟨⟨(((H1.out.1.kept k2).kept k3).kept k4).kept k5, ((H2.out.1.kept k3).kept k4).kept k5, (H3.out.1.kept k4).kept k5, H4.out.1.kept k5, H5.out.1⟩,
      (((H1.out.2.trans (k2.mono s1)).trans (k3.mono (by omega))).trans (k4.mono (by omega))).trans (k5.mono (by omega))⟩)
  clear HC0 HC1 HC2 HC3 HC4 H1 H2 H3 H4 H5
  obtain ⟨m, hm⟩ : ∃ m, min (min l2 l3) l4 = m := ⟨_, rfl⟩
  have HM : Hid (mE g = m ∧ m ≤ l2 ∧ m ≤ l3 ∧ m ≤ l4) := Lib.hid (by unfold mE; rw [HL.out.2.2.1, HL.out.2.2.2.1, HL.out.2.2.2.2]; omega)
  have HOK : Hid (OkG g) := Lib.hid (by
    have h := HN4.out
    have h2 := HM.out
    have h3 := HV.out
    exact ⟨by rw [HL.out.1]; omega, by omega, fun e he => h3.2.1 e (by omega), fun e he => h3.1 e (by omega), fun e he => h3.2.2 e (by omega)⟩)
  have HEC := Lib.hid (fun w => ec_any b2 b3 b4 l2 d2 l3 d3 l4 d4 w)
  rw [hm] at HEC
  clear hm
  have HBD := Lib.hid (bd_any g HOK.out p b0 b1 b2 b3 b4 l0 l1 l2 l3 l4 d0 d1 d2 d3 d4 HL.out.1 HL.out.2.1 HL.out.2.2.1 HL.out.2.2.2.1 HL.out.2.2.2.2 w5 HA5.out.1)
  go_upto_region 15 with (first
    | (go_at_call 9; refine (HEC.out _).mono ?_; rintro e wq ⟨rfl, hq⟩; obtain rfl := hq.symm)
    | (go_at_call 10; refine HBD.out.mono ?_; rintro e w6 ⟨S, F, P, A, K, rfl, hz⟩; have HZ := Lib.hid hz; clear hz))
  clear HEC HBD
  obtain ⟨C, hC⟩ : ∃ C, w6.heap.size = C := ⟨_, rfl⟩
  go_upto_region 16 with fail
  have HS7 : Hid (St (w6.alloc (.cells #[.bool false] 4)) S F C P A K g p (fun _ => false) (fun _ => 4294967295) (fun _ => 4294967295) (fun _ => 0) false ∧ w5.grownBy (w6.alloc (.cells #[.bool false] 4)) none ∧ w5.heap.size ≤ F ∧ w5.heap.size ≤ C) := Lib.hid (by
    have hz := HZ.out
    have hb := Blk.new w6 4 #[.bool false]
    rw [hC] at hb
    have hg := gb_al w6 (.cells #[.bool false] 4)
    obtain ⟨cs, h1, h2⟩ := hz.s
    obtain ⟨ds, k1, k2, k3, k4⟩ := hz.f
    refine ⟨⟨⟨⟨cs, h1.gb hg (by simp), h2⟩, fun v hv hp => (hz.q v hv hp).grow hg, fun v hv hp => (hz.r v hv hp).grow hg⟩, hb, ⟨ds, k1.gb hg (by simp), k2, fun v hv => k3 v hv⟩⟩, gb_trans hz.g hg, hz.lo.2, by rw [← hC]; exact hz.g.size⟩)
  clear HZ hC
  generalize w6.alloc (.cells #[.bool false] 4) = w7 at HS7 ⊢
  have hrL : Hid (r < g.ts.length) := Lib.hid (by rw [HL.out.1]; exact hrl)
  have HZV := Lib.hid (zv_any (Rt g p r) r w7 (root_any HOK.out r hrL.out w7 HS7.out.1))
  go_upto_region 17 with (go_at_call 11; refine HZV.out.mono ?_; rintro e w8 ⟨d', Pa', De', Re', dc', ha, hs, hrt, ht, hx⟩; unfold Ans at ha; have H8 := Lib.hid (And.intro hs (And.intro hrt (And.intro ht hx))); have HTC := Lib.hid (tc_any r hrL.out w8 hs (ht.pr r) ⟨by have := (ht.dr r).1; omega, (ht.dr r).2⟩); unfold Ans at HTC; obtain ⟨bv, hbv⟩ : ∃ bv, (!(Pa' r == 4294967295)) = bv := ⟨_, rfl⟩; obtain ⟨pv, hpv⟩ : ∃ pv, Pa' r = pv := ⟨_, rfl⟩; obtain ⟨dv, hdv⟩ : ∃ dv, De' r = dv := ⟨_, rfl⟩; obtain ⟨rv, hrv⟩ : ∃ rv, Re' r = rv := ⟨_, rfl⟩; rw [hbv, hpv, hdv, hrv] at ha; subst ha; rw [hbv, hpv, hdv, hrv] at HTC; clear hs hrt ht hx hbv hpv hdv hrv)
  go_upto_region 18 with (go_at_call 12; refine HTC.out.mono ?_; rintro e w9 ⟨rfl, hg⟩; have H9 := Lib.hid hg; clear hg)
  clear HZV HTC
  have HS9 : Hid (St w9 S F C P A K g p d' Pa' De' Re' dc' ∧ Rt g p r d' ∧ TI (tlv g) d' Pa' De' Re' dc' ∧ Below w5.heap.size w5 w9) := Lib.hid (by
    obtain ⟨h1, h2, h3, h4⟩ := H8.out
    obtain ⟨k1, k2, k3, k4⟩ := HS7.out
    refine ⟨h1.gb H9.out, h2, h3, ((below_of k2).trans (h4.below k2.size k3 k4)).trans ((below_of H9.out).mono (Nat.le_trans k2.size h4.size))⟩)
  have HA9 : Hid (Ar w9 g b0 b1 b2 b3 b4) := Lib.hid (HA5.out.1.kept HS9.out.2.2.2)
  have HBW : Hid (∀ wx : World, w9.grownBy wx none → Below w.heap.size w wx) := Lib.hid (fun wx hg => by
    have h1 := HA5.out.2.size
    have h2 := HS9.out.2.2.2.size
    exact (HA5.out.2.trans (HS9.out.2.2.2.mono h1)).trans ((below_of hg).mono (Nat.le_trans h1 h2)))
  clear H8 H9 HS7
  go_upto_region 20 with fail
  have HMQ : Hid (w9.grownBy w9 none) := Lib.hid (gb_refl _ _)
  go_upto_region 21 with (at_make; refine wpList_make_blk w9 rfl _ _ 22 rfl 4 (.bool false) 1 1 Tryz.underlying22 zinfo4 l0 rfl rfl (by omega) (by unfold maxLen; omega) ?_; intro w10 hb hgr; have H10 := Lib.hid (And.intro hb hgr); clear hb hgr)
  obtain ⟨Q, hQ⟩ : ∃ Q, w9.heap.size = Q := ⟨_, rfl⟩
  try rw [hQ]
  rw [hQ] at H10
  obtain ⟨i0, hi0, hz0, hz1, hz2⟩ := info_parts zinfo3
  go_upto_region 22 with (at_make; refine wpList_make_own w10 rfl _ _ 39 rfl w10.heap.size 3 i0 _ 1 Tryz.underlying39 hi0 hz0 hz1 .i64 .i64 l0 l0 rfl rfl rfl (by rw [hz2]; omega) (by unfold maxLen; omega) (Nat.le_refl _) ?_; intro w11 ho1 hg1; have H11 := Lib.hid (And.intro ho1 hg1); clear ho1 hg1)
  obtain ⟨B, hB⟩ : ∃ B, w10.heap.size = B := ⟨_, rfl⟩
  rw [hB]
  have HQB : Hid (Q < B ∧ w9.heap.size ≤ Q) := Lib.hid ⟨by rw [← hB]; exact H10.out.1.lt, Nat.le_of_eq hQ⟩
  have HG11 : Hid (w9.grownBy w11 none) := Lib.hid (gb_trans H10.out.2 H11.out.2)
  have HW11 : Hid (Wk w11 l0 Q B (fun _ => false) (.slice (some ⟨B, 0, none⟩) 0 l0) []) := Lib.hid (by
    have h := H11.out.1
    rw [hB] at h
    refine ⟨⟨_, H10.out.1.gb H11.out.2 (by simp), by simp [madeCells, Value.cells], fun u hu => ?_⟩, h, fun u hu => by simp at hu, by rw [cnt_all]; simp, HQB.out.1, by rw [← hB]; exact H11.out.2.size⟩
    have := made_at #[Value.bool false] 1 l0 u 0 rfl hu (by omega)
    rw [Nat.mul_one, Nat.add_zero] at this
    simpa [Value.cells] using this)
  clear H10 H11 hB hQ HMQ
  obtain ⟨sv, hsv⟩ : ∃ sv, Value.slice (some ⟨B, 0, none⟩) 0 l0 = sv := ⟨_, rfl⟩
  rw [hsv] at HW11
  rw [hsv]
  clear hsv
  obtain ⟨onb, hon⟩ : ∃ onb, ((!(p == 0)) && prs g r) = onb := ⟨_, rfl⟩
  have HON := Lib.hid hon
  have HFK := Lib.hid (fok_any b1 g.gs d1 l1 HL.out.2.1 r w11 (fun h => (HA9.out.kept (below_of HG11.out)).h1.at (by rw [HL.out.2.1]; exact h)))
  rw [show (!(g.gs.getD r false)) = prs g r from rfl] at HFK
  go_cut [6, 46, 85, 129] (fun x y z v wc => x = .int .u32 p ∧ y = .int .u32 p ∧ z = .int .u32 p ∧ v = .bool onb ∧ Hid (wc = w11))
  case first =>
    as_aux_lemma =>
      obtain ⟨pr, hpr⟩ : ∃ pr, prs g r = pr := ⟨_, rfl⟩
      rw [hpr] at HFK hon
      clear hpr
      by_cases hp0 : p = 0
      · have e2 : (p == 0) = true := by simp [hp0]
        rw [e2] at hon
        have HO2 := Lib.hid hon
        clear hon
        have HP0 := Lib.hid hp0
        go_wp2_with fail
        go_meet
        exact ⟨by rw [HP0.out], by rw [HP0.out], by rw [HP0.out], by rw [← HO2.out]; rfl, Lib.hid rfl⟩
      · have e2 : (p == 0) = false := by simp [hp0]
        rw [e2] at hon
        have HO2 := Lib.hid hon
        have HP0 := Lib.hid hp0
        clear hon
        go_wp2_with (go_at_call 13; refine HFK.out.mono ?_; rintro e wq ⟨rfl, hq⟩; obtain rfl := hq.symm)
        go_meet
        exact ⟨rfl, rfl, rfl, by rw [← HO2.out]; simp [HP0.out], Lib.hid rfl⟩
  case rest =>
    obtain ⟨rfl, rfl, rfl, rfl, hwc⟩ := hcut
    obtain rfl := hwc.out.symm
    clear HFK hwc
    have HRT : Hid (onb = true ↔ (p ≠ 0 ∧ prs g r = true)) := Lib.hid (by rw [← HON.out]; simp)
    go_upto_if 129 with fail
    go_cut [28] (fun v wc => Hid (∃ q st, Wk wc l0 Q B q v st ∧ Wv (onb = true) g r q st (fun _ => False) ∧ w9.grownBy wc none))
    case first =>
      as_aux_lemma =>
        cases onb
        · go_wp2_with fail
          go_meet
          exact Lib.hid ⟨_, _, HW11.out, ⟨fun h => (by cases h), fun _ => ⟨fun _ => rfl, rfl⟩⟩, HG11.out⟩
        · obtain ⟨qs, h1, h2, h3⟩ := HW11.out.seen
          have k1 := (h1.cell r).trans (h3 r hrl)
          have f1 := h1.free r
          have lQ := h1.lt
          clear h1 h2 h3
          go_upto_region 24 with fail
          clear k1 f1 lQ
          have HM12 : Hid (Wk (w11.setCell ⟨Q, r, none⟩ (.bool true)) l0 Q B (fun u => false || u == r) sv [] ∧ ([] : List Nat).length + 1 + cnt (fun u => false || u == r) l0 ≤ l0 ∧ w9.grownBy (w11.setCell ⟨Q, r, none⟩ (.bool true)) none) := Lib.hid (by
            have h := HW11.out.mark hrl rfl
            exact ⟨h.1, h.2, gb_new (gb_trans (gb_none HG11.out) (gb_set (gb_refl _ _) _ _ _)) HQB.out.2⟩)
          generalize w11.setCell ⟨Q, r, none⟩ (.bool true) = w12 at HM12 ⊢
          have hzs : B ≤ w12.heap.size := HM12.out.1.hb
          obtain ⟨zz, hzz⟩ : ∃ zz, zof [] = zz := ⟨_, rfl⟩
          have HO := Lib.hid HM12.out.1.stk
          rw [hzz] at HO
          have hzl : zz.length = 0 := by rw [← hzz]; rfl
          have hz63 : zz.length + 1 ≤ maxLen := by rw [hzl]; simp [maxLen]
          have hz64 : (zz.length + 1) * 8 ≤ 140737488355328 := by rw [hzl]; simp
          have HZZ := Lib.hid hzz
          clear hzz hzl
          have HPU := Lib.hid (And.intro hz63 (And.intro hz64 hzs))
          clear hz63 hz64 hzs
          go_wp2_with (at_builtin; refine wpList_push w12 rfl (.tmp 133) (.tmp 136) 39 rfl B 3 .i64 8 Tryz.underlying39 zinfo3 sv zz (r : Int) rfl HO.out rfl HPU.out.1 HPU.out.2.1 HPU.out.2.2 ?_; intro v' w13 ho hg hne; have H13 := Lib.hid (And.intro ho hg); clear ho hg hne)
          go_meet
          exact Lib.hid ⟨_, _, HM12.out.1.push hrl HM12.out.2.1 (by rw [HZZ.out]; exact H13.out.1) H13.out.2.1, Wv.begin_ (HRT.out.1 rfl).2, gb_own HM12.out.2.2 H13.out.2.1 (fun b hb => by have := (HM12.out.1.stk.lt b hb).1; have := HQB.out; omega)⟩
    case rest =>
      obtain ⟨w14, rfl⟩ : ∃ w14 : World, w14 = wc := ⟨_, rfl⟩
      have H14 := hcut
      clear hcut HW11 HG11 hwr hwu
      go_wp2_with fail
      go_loopg [28] (l0 + l0) (fun kk y wx => Hid (∃ q st, Wk wx l0 Q B q y st ∧ Wv (onb = true) g r q st (fun _ => False) ∧ w9.grownBy wx none ∧ st.length + cnt q l0 ≤ kk))
      case atStart =>
        obtain ⟨q, st, h1, h2, h3⟩ := H14.out
        exact Lib.hid ⟨q, st, h1, h2, h3, by have := h1.len; omega⟩
      case round =>
        obtain ⟨wr0, rfl⟩ : ∃ wr0 : World, wr0 = wr := ⟨_, rfl⟩
        obtain ⟨gO, rfl⟩ : ∃ gO, gO = gk := ⟨_, rfl⟩
        obtain ⟨q, st, hwk, hwv, hgr, hle⟩ := hrel.out
        obtain ⟨yv, rfl⟩ : ∃ yv, yv = u28 := ⟨_, rfl⟩
        have HWV := Lib.hid hwv
        have HGR := Lib.hid hgr
        have HLE := Lib.hid hle
        have HWK := Lib.hid hwk
        clear hrel hwv hgr hle hwk
        rcases List.eq_nil_or_concat st with hst | ⟨st', v, hst⟩
        · skip
          subst hst
          obtain ⟨ao, cap, hyv, _⟩ := HWK.out.stk.form
          rw [show (zof []).length = 0 from rfl] at hyv
          subst hyv
          have HFN : Hid (∀ v, (q v && prs g v) = d' v) := Lib.hid (fun v => HWV.out.last HRT.out HS9.out.2.1 v)
          go_wp2_with fail
          go_loopg [32, 33] l0 (fun kk x y wx => ∃ (b : Bool) (v : Nat), x = .bool b ∧ y = .int .i64 (v : Int) ∧ v ≤ l0 ∧ l0 - v ≤ kk ∧ Hid ((b = true ↔ ∃ u, u < v ∧ d' u = true ∧ tlv g u = true) ∧ wr0.grownBy wx none))
          case atStart => exact ⟨false, 0, rfl, rfl, by omega, by omega, Lib.hid ⟨⟨fun h => (by cases h), fun ⟨u, h, _⟩ => absurd h (Nat.not_lt_zero u)⟩, gb_refl _ _⟩⟩
          case round =>
            obtain ⟨b, v, rfl, rfl, hv, hkk, HB⟩ := hrel
            obtain ⟨wy, rfl⟩ : ∃ wy : World, wy = wr := ⟨_, rfl⟩
            have HSY := Lib.hid ((HS9.out.1.gb HGR.out).gb HB.out.2)
            rcases (show l0 = v ∨ v < l0 by omega) with he | hlt
            · subst he
              have hcl := HSY.out.cl hrL.out
              have kc := hcl.c
              have lc := hcl.lc
              clear hcl
              have HEQ : Hid (dc' = b) := Lib.hid (by
                have ht := HS9.out.2.2.1
                rw [Bool.eq_iff_iff, HB.out.1]
                constructor
                · intro h
                  obtain ⟨u, h1, h2⟩ := ht.a1 h
                  refine ⟨u, ?_, h1, h2⟩
                  unfold tlv at h2
                  by_cases hu : u < g.ts.length
                  · rw [HL.out.1] at hu; exact hu
                  · rw [List.getD_eq_getElem?_getD, List.getElem?_eq_none (by omega)] at h2; cases h2
                · rintro ⟨u, _, h1, h2⟩
                  exact ht.a2 u h1 h2)
              rw [HEQ.out] at kc
              as_aux_lemma =>
                go_wp2_with fail
                go_ret
                exact ⟨by simp, HBW.out _ (gb_trans HGR.out HB.out.2)⟩
            · have hvL : v < g.ts.length := by rw [HL.out.1]; exact hlt
              have ht := HS9.out.2.2.1
              have HTC := Lib.hid (tc_any v hvL wy HSY.out (ht.pr v) ⟨by have := (ht.dr v).1; omega, (ht.dr v).2⟩)
              unfold Ans at HTC
              have HTPF : Hid (∀ w1 : World, wy.grownBy w1 none → Calls Tryz.prog 14 #[.pointer (some ⟨S, 0, none⟩), .int .i64 (v : Int)] w1 fun e w' => e = .returned (.int .u32 (if d' v = true then p else 0)) ∧ w' = w1) := Lib.hid (fun w1 hg => tp_any v hvL w1 (HSY.out.gb hg))
              obtain ⟨qs, h1, h2, h3⟩ := ((HWK.out.gb HB.out.2)).seen
              have HQC : Hid (∀ w1 : World, wy.grownBy w1 none → w1.cell? ⟨Q, v, none⟩ = some (.bool (q v))) := Lib.hid (fun w1 hg => ((h1.gb hg (by simp)).cell v).trans (h3 v hlt))
              have HQL : Hid (∀ w1 : World, wy.grownBy w1 none → Q < w1.heap.size) := Lib.hid (fun w1 hg => (h1.gb hg (by simp)).lt)
              clear h1 h2 h3
              have HARY := Lib.hid (HA9.out.kept (below_of (gb_trans HGR.out HB.out.2)))
              have HFO : Hid (∀ w1 : World, wy.grownBy w1 none → Calls Tryz.prog 13 #[.slice b1 l1 d1, .int .i64 (v : Int)] w1 fun e w' => e = .returned (.bool (prs g v)) ∧ w' = w1) := Lib.hid (fun w1 hg => fok_any b1 g.gs d1 l1 HL.out.2.1 v w1 (fun h => (HARY.out.kept (below_of hg)).h1.at (by rw [HL.out.2.1]; exact h)))
              obtain ⟨bb0, oo0, hB0, _, _⟩ := HARY.out.h0.at (i := v) hvL
              subst hB0
              have HTA : Hid (∀ w1 : World, wy.grownBy w1 none → w1.cell? ⟨bb0, oo0 + v, none⟩ = some (.bool (tlv g v))) := Lib.hid (fun w1 hg => by
                obtain ⟨b', o', e1, _, e2⟩ := (HARY.out.kept (below_of hg)).h0.at (i := v) hvL
                cases e1
                exact e2)
              have HTB : Hid (∀ w1 : World, wy.grownBy w1 none → bb0 < w1.heap.size) := Lib.hid (fun w1 hg => by
                obtain ⟨b', o', e1, e2, _⟩ := (HARY.out.kept (below_of hg)).h0.at (i := v) hvL
                cases e1
                exact e2)
              have HTI := Lib.hid ht
              have HFV := Lib.hid (HFN.out v)
              clear ht hvL
              have hwv : IntKind.u32.wrap (v : Int) = (v : Int) := by rw [IntKind.wrap_u32]; omega
              have HNX : Hid (∀ wq : World, wy.grownBy wq none → wr0.grownBy wq none) := Lib.hid (fun wq hg => gb_trans HB.out.2 hg)
              obtain ⟨tv, htv⟩ : ∃ tv, tlv g v = tv := ⟨_, rfl⟩
              obtain ⟨qv, hqv⟩ : ∃ qv, q v = qv := ⟨_, rfl⟩
              obtain ⟨gv, hgv⟩ : ∃ gv, prs g v = gv := ⟨_, rfl⟩
              rw [hqv] at HQC HFV
              rw [hgv] at HFO HFV
              rw [htv] at HTA
              have HTV := Lib.hid htv
              clear htv hqv hgv
              cases hdv : d' v with
              | true => 
                rw [hdv, if_pos rfl] at HTPF
                rw [hdv] at HFV
                have hqt : qv = true := (and_tt HFV.out).1
                have hgt : gv = true := (and_tt HFV.out).2
                subst hqt hgt
                have HDV := Lib.hid hdv
                have hp0 : ¬ p = 0 := fun h => by
                  have := HS9.out.2.1.2 (fun h2 => h2.1 h)
                  rw [this] at hdv; cases hdv
                clear hdv
                cases tv
                · have HRL : Hid (b = true ↔ ∃ u, u < v + 1 ∧ d' u = true ∧ tlv g u = true) := Lib.hid (by
                    rw [HB.out.1]
                    constructor
                    · rintro ⟨u, h1, h2⟩; exact ⟨u, by omega, h2⟩
                    · rintro ⟨u, h1, h2, h3⟩
                      refine ⟨u, ?_, h2, h3⟩
                      rcases (show u < v ∨ u = v by omega) with h | rfl
                      · exact h
                      · rw [HTV.out] at h3; cases h3)
                  obtain ⟨xv, hxv⟩ : ∃ xv, (!(Pa' v == 4294967295)) = xv := ⟨_, rfl⟩
                  obtain ⟨pw, hpw⟩ : ∃ pw, Pa' v = pw := ⟨_, rfl⟩
                  obtain ⟨dw, hdw⟩ : ∃ dw, De' v = dw := ⟨_, rfl⟩
                  obtain ⟨rw', hrw'⟩ : ∃ rw', Re' v = rw' := ⟨_, rfl⟩
                  rw [hxv, hpw, hdw, hrw'] at HTC
                  clear hxv hpw hdw hrw'
                  as_aux_lemma =>
                    go_wp2_with (first
                      | (go_at_call 12; refine HTC.out.mono ?_; rintro e w1 ⟨rfl, hg⟩; have H1 := Lib.hid hg; have k1 := HQC.out w1 hg; have lQ1 := HQL.out w1 hg; have HFK := Lib.hid (HFO.out w1 hg); have HTP := Lib.hid (HTPF.out w1 hg); have ct := HTA.out w1 hg; have lb := HTB.out w1 hg; clear hg)
                      | (go_at_call 14; refine HTP.out.mono ?_; rintro e wq ⟨rfl, hq⟩; obtain rfl := hq.symm)
                      | (go_at_call 13; refine HFK.out.mono ?_; rintro e wq ⟨rfl, hq⟩; obtain rfl := hq.symm))
                    all_goals
                      go_roundg (gk - 1)
                      case measure => omega
                      case rel => exact ⟨b, v + 1, rfl, by go_num, by omega, by omega, Lib.hid ⟨HRL.out, HNX.out _ H1.out⟩⟩
                · have hc := HTI.out.c v HDV.out HTV.out
                  obtain ⟨rw', hrw'⟩ : ∃ rw', Re' v = rw' := ⟨_, rfl⟩
                  rw [hc.1, hc.2, hrw', show ((v : Int) == 4294967295) = false by simp; omega] at HTC
                  clear hc hrw'
                  have HRL := Lib.hid (And.intro HDV.out HTV.out)
                  as_aux_lemma =>
                    go_wp2_with (first
                      | (go_at_call 12; refine HTC.out.mono ?_; rintro e w1 ⟨rfl, hg⟩; have H1 := Lib.hid hg; have k1 := HQC.out w1 hg; have lQ1 := HQL.out w1 hg; have HFK := Lib.hid (HFO.out w1 hg); have HTP := Lib.hid (HTPF.out w1 hg); have ct := HTA.out w1 hg; have lb := HTB.out w1 hg; clear hg)
                      | (go_at_call 14; refine HTP.out.mono ?_; rintro e wq ⟨rfl, hq⟩; obtain rfl := hq.symm)
                      | (go_at_call 13; refine HFK.out.mono ?_; rintro e wq ⟨rfl, hq⟩; obtain rfl := hq.symm))
                    all_goals
                      go_roundg (gk - 1)
                      case measure => omega
                      case rel => exact ⟨true, v + 1, rfl, by go_num, by omega, by omega, Lib.hid ⟨⟨fun _ => ⟨v, Nat.lt_succ_self v, HRL.out⟩, fun _ => rfl⟩, HNX.out _ H1.out⟩⟩
              | false => 
                rw [hdv, if_neg (by simp)] at HTPF
                rw [hdv] at HFV
                have hPv : Pa' v = 4294967295 := (HTI.out.e v hdv).1
                rw [hPv] at HTC
                have HDV := Lib.hid hdv
                clear hdv hPv
                have HRL : Hid (b = true ↔ ∃ u, u < v + 1 ∧ d' u = true ∧ tlv g u = true) := Lib.hid (by
                  rw [HB.out.1]
                  constructor
                  · rintro ⟨u, h1, h2⟩; exact ⟨u, by omega, h2⟩
                  · rintro ⟨u, h1, h2, h3⟩
                    refine ⟨u, ?_, h2, h3⟩
                    rcases (show u < v ∨ u = v by omega) with h | rfl
                    · exact h
                    · rw [HDV.out] at h2; cases h2)
                obtain ⟨dv, hdv⟩ : ∃ dv, De' v = dv := ⟨_, rfl⟩
                obtain ⟨rv', hrv'⟩ : ∃ rv', Re' v = rv' := ⟨_, rfl⟩
                rw [hdv, hrv'] at HTC
                clear hdv hrv'
                cases qv
                · skip
                  as_aux_lemma =>
                    go_wp2_with (first
                      | (go_at_call 12; refine HTC.out.mono ?_; rintro e w1 ⟨rfl, hg⟩; have H1 := Lib.hid hg; have k1 := HQC.out w1 hg; have lQ1 := HQL.out w1 hg; have HFK := Lib.hid (HFO.out w1 hg); have HTP := Lib.hid (HTPF.out w1 hg); have ct := HTA.out w1 hg; have lb := HTB.out w1 hg; clear hg)
                      | (go_at_call 14; refine HTP.out.mono ?_; rintro e wq ⟨rfl, hq⟩; obtain rfl := hq.symm)
                      | (go_at_call 13; refine HFK.out.mono ?_; rintro e wq ⟨rfl, hq⟩; obtain rfl := hq.symm))
                    all_goals
                      go_roundg (gk - 1)
                      case measure => omega
                      case rel => exact ⟨b, v + 1, rfl, by go_num, by omega, by omega, Lib.hid ⟨HRL.out, HNX.out _ H1.out⟩⟩
                · have hgf : gv = false := by have h := HFV.out; simpa using h
                  subst hgf
                  as_aux_lemma =>
                    go_wp2_with (first
                      | (go_at_call 12; refine HTC.out.mono ?_; rintro e w1 ⟨rfl, hg⟩; have H1 := Lib.hid hg; have k1 := HQC.out w1 hg; have lQ1 := HQL.out w1 hg; have HFK := Lib.hid (HFO.out w1 hg); have HTP := Lib.hid (HTPF.out w1 hg); have ct := HTA.out w1 hg; have lb := HTB.out w1 hg; clear hg)
                      | (go_at_call 14; refine HTP.out.mono ?_; rintro e wq ⟨rfl, hq⟩; obtain rfl := hq.symm)
                      | (go_at_call 13; refine HFK.out.mono ?_; rintro e wq ⟨rfl, hq⟩; obtain rfl := hq.symm))
                    all_goals
                      go_roundg (gk - 1)
                      case measure => omega
                      case rel => exact ⟨b, v + 1, rfl, by go_num, by omega, by omega, Lib.hid ⟨HRL.out, HNX.out _ H1.out⟩⟩
        · rw [List.concat_eq_append] at hst
          subst hst
          have HO1 : Hid (onb = true) := Lib.hid (by
            cases honb : onb with
            | true => rfl
            | false =>
              have h := (HWV.out.2 (by rw [honb]; simp)).2
              simp at h)
          have HPOP := Lib.hid ((HWV.out.1 HO1.out).pop)
          have hvl : v < l0 := HWK.out.lt v (by simp)
          have hstk := HWK.out.stk
          rw [zof_snoc] at hstk
          obtain ⟨b, cap, hyv, hcap, hBb, hbl, hcell, hown⟩ := Own.last hstk
          have HWN := HWK.out.len
          have HLL := HLE.out
          obtain ⟨ln, hln⟩ : ∃ ln, (zof st').length = ln := ⟨_, rfl⟩
          have hln2 : st'.length = ln := by rw [← hln, zof_len]
          rw [hln] at hyv hcap hcell hown
          rw [List.length_append] at HWN HLL
          have hln4 : ln ≤ 4096 := by simp at HWN; omega
          have HI0 : Hid (Wi g r v Q B gO 0 w9 wr0 (.slice (some ⟨b, 0, none⟩) ln cap) q st') := Lib.hid (by
            have h := HWK.out
            have hp := HPOP.out
            have hs2 : (q v && prs g v) = true := hp.2
            refine ⟨⟨by rw [HL.out.1]; exact h.seen, hown, fun u hu => by rw [HL.out.1]; exact h.lt u (by simp [hu]), by rw [HL.out.1]; simp at HWN; omega, h.hq, h.hb⟩, hp.1, and_tt hs2, HGR.out, by rw [HL.out.1]; simp at HLL; omega, fun e' h => absurd h (Nat.not_lt_zero _)⟩)
          subst hyv
          clear hown hstk HWN HLL hln hln2 hBb
          have hsl := st_to b (ln + 1) cap ln (by omega)
          have hsl2 := st_to2 b (ln + 1) cap ln (by omega)
          go_wp2_with fail
          clear hsl hsl2 hcell
          have hm4 : m ≤ 4096 := by have := HN4.out; have := HM.out; omega
          go_loopg [28, 30] m (fun kk y x wx => ∃ e : Nat, x = .int .i64 (e : Int) ∧ e ≤ m ∧ m - e ≤ kk ∧ Hid (∃ q2 st2, Wi g r v Q B gO e w9 wx y q2 st2))
          case atStart => exact ⟨0, rfl, by omega, by omega, Lib.hid ⟨_, _, HI0.out⟩⟩
          case round =>
            obtain ⟨e, rfl, he, hkk, HE⟩ := hrel
            obtain ⟨wy, rfl⟩ : ∃ wy : World, wy = wr := ⟨_, rfl⟩
            obtain ⟨g2, rfl⟩ : ∃ g2, g2 = gk := ⟨_, rfl⟩
            obtain ⟨yv, rfl⟩ : ∃ yv, yv = u28 := ⟨_, rfl⟩
            obtain ⟨q2, st2, hi⟩ := HE.out
            have HI := Lib.hid hi
            clear hi HE
            rcases (show m = e ∨ e < m by omega) with hme | hlte
            · subst hme
              have HFI : Hid (∃ q st, Wk wy l0 Q B q yv st ∧ Wv (onb = true) g r q st (fun _ => False) ∧ w9.grownBy wy none ∧ st.length + cnt q l0 ≤ gO - 1 ∧ 1 ≤ gO) := Lib.hid (by
                have h := HI.out
                refine ⟨q2, st2, by rw [← HL.out.1]; exact h.wk, ⟨fun _ => h.done HOK.out HM.out.1.symm, fun h => absurd HO1.out h⟩, h.gr, ?_, ?_⟩
                · have := h.le; rw [HL.out.1] at this; omega
                · have := h.le; omega)
              as_aux_lemma =>
                go_wp2_with fail
                go_roundg (gO - 1)
                case measure => obtain ⟨_, _, _, _, _, _, h⟩ := HFI.out; omega
                case rel =>
                  obtain ⟨q, st, h1, h2, h3, h4, _⟩ := HFI.out
                  exact Lib.hid ⟨q, st, h1, h2, h3, h4⟩
            · have HARY := Lib.hid (HA9.out.kept (below_of HI.out.gr))
              have hel2 : e < l2 := by have := HM.out; omega
              have hel3 : e < l3 := by have := HM.out; omega
              have hel4 : e < l4 := by have := HM.out; omega
              have hem : e < mE g := by rw [HM.out.1]; exact hlte
              obtain ⟨p2, o2, hB2, lb2, cs2⟩ := HARY.out.h2.at (i := e) (by rw [HL.out.2.2.1]; exact hel2)
              obtain ⟨p3, o3, hB3, lb3, cs3⟩ := HARY.out.h3.at (i := e) (by rw [HL.out.2.2.2.1]; exact hel3)
              obtain ⟨p4, o4, hB4, lb4, cs4⟩ := HARY.out.h4.at (i := e) (by rw [HL.out.2.2.2.2]; exact hel4)
              subst hB2 hB3 hB4
              obtain ⟨t, ht⟩ : ∃ t, nth g.sr e = t := ⟨_, rfl⟩
              obtain ⟨kv, hkv⟩ : ∃ kv, nth g.kd e = kv := ⟨_, rfl⟩
              obtain ⟨u, hu⟩ : ∃ u, nth g.ds e = u := ⟨_, rfl⟩
              have ht2 : 0 ≤ t ∧ t < 65536 := by rw [← ht]; exact HOK.out.s e hem
              have hk2 : 0 ≤ kv ∧ kv < 256 := by rw [← hkv]; exact HOK.out.k e hem
              have hu2 : 0 ≤ u ∧ u < 65536 := by rw [← hu]; exact HOK.out.d e hem
              rw [ht] at cs2
              rw [hu] at cs3
              rw [hkv] at cs4
              have HEV := Lib.hid (And.intro ht (And.intro hkv (And.intro hu hem)))
              have hwt : IntKind.i64.wrap t = t := by rw [IntKind.wrap_i64]; omega
              have hwu : IntKind.i64.wrap u = u := by rw [IntKind.wrap_i64]; omega
              clear ht hkv hu hem
              by_cases htv : t = (v : Int)
              · subst htv
                have hm3 : Int.tmod kv 3 = kv % 3 := Int.tmod_eq_emod_of_nonneg hk2.1
                have hw3 : IntKind.u8.wrap (kv % 3) = kv % 3 := by rw [IntKind.wrap_u8]; omega
                by_cases hk3 : kv % 3 = 2
                · have HK3 := Lib.hid hk3
                  rw [hk3] at hm3 hw3
                  clear hk3
                  have HPS : Hid (Pr g v q2 (e + 1)) := Lib.hid (HI.out.pr.step (fun _ h => absurd (by rw [HEV.out.2.1]; exact HK3.out) h))
                  as_aux_lemma =>
                    go_wp2_with fail
                    go_roundg (g2 - 1)
                    case measure => omega
                    case rel => exact ⟨e + 1, by go_num, by omega, by omega, Lib.hid ⟨q2, st2, HI.out.seen HPS.out⟩⟩
                · have HK3 := Lib.hid hk3
                  obtain ⟨k3, hk3e⟩ : ∃ k3, kv % 3 = k3 := ⟨_, rfl⟩
                  rw [hk3e] at hm3 hw3 hk3
                  clear hk3e
                  have e2 : (k3 == 2) = false := by simp [hk3]
                  by_cases hun : (l0 : Int) ≤ u
                  · have HUN := Lib.hid hun
                    have e3 : decide ((l0 : Int) ≤ u) = true := by simp [hun]
                    clear hk3 hun
                    have HNX : Hid (Wi g r v Q B gO (e + 1) w9 wy yv q2 st2) := Lib.hid (HI.out.seen (HI.out.pr.step (fun _ _ c hc hcn _ => by
                      have h1 := HUN.out
                      have h2 := HEV.out.2.2.1
                      rw [HL.out.1] at hcn
                      omega)))
                    as_aux_lemma =>
                      go_wp2_with fail
                      go_roundg (g2 - 1)
                      case measure => omega
                      case rel => exact ⟨e + 1, by go_num, by omega, by omega, Lib.hid ⟨_, _, HNX.out⟩⟩
                  · obtain ⟨c, rfl⟩ : ∃ c : Nat, u = (c : Int) := ⟨u.toNat, by omega⟩
                    have hcn : c < l0 := by omega
                    have e3 : decide ((l0 : Int) ≤ (c : Int)) = false := by simp; omega
                    have e4 : decide (l0 ≤ c) = false := by simp; omega
                    clear hk3 hun
                    obtain ⟨qs, h1, h2, h3⟩ := HI.out.wk.seen
                    have kq := (h1.cell c).trans (h3 c (by rw [HL.out.1]; exact hcn))
                    have fq := h1.free c
                    have lq := h1.lt
                    clear h1 h2 h3
                    obtain ⟨qc, hqc⟩ : ∃ qc, q2 c = qc := ⟨_, rfl⟩
                    rw [hqc] at kq
                    have HQC := Lib.hid hqc
                    clear hqc
                    cases qc
                    · have hcl : c < g.ts.length := by rw [HL.out.1]; exact hcn
                      have HMK := Lib.hid (HI.out.wk.mark hcl HQC.out)
                      have HGS : Hid (w9.grownBy (wy.setCell ⟨Q, c, none⟩ (.bool true)) none) := Lib.hid (gb_new (gb_trans (gb_none HI.out.gr) (gb_set (gb_refl _ _) _ _ _)) HQB.out.2)
                      have HFK := Lib.hid (fok_any b1 g.gs d1 l1 HL.out.2.1 c (wy.setCell ⟨Q, c, none⟩ (.bool true)) (fun h => (HA9.out.kept (below_of HGS.out)).h1.at (by rw [HL.out.2.1]; exact h)))
                      rw [show (!(g.gs.getD c false)) = prs g c from rfl] at HFK
                      obtain ⟨gc, hgc⟩ : ∃ gc, prs g c = gc := ⟨_, rfl⟩
                      rw [hgc] at HFK
                      have HGC := Lib.hid hgc
                      have HCL := Lib.hid hcl
                      clear hgc hcl
                      cases gc
                      · have HNX := Lib.hid (HI.out.gone HCL.out HQC.out HGC.out HEV.out.2.2.1 HQB.out.2)
                        as_aux_lemma =>
                          go_wp2_with (go_at_call 13; refine HFK.out.mono ?_; rintro e7 w7 ⟨rfl, h7⟩; obtain rfl := h7.symm)
                          go_roundg (g2 - 1)
                          case measure => omega
                          case rel => exact ⟨e + 1, by go_num, by omega, by omega, Lib.hid ⟨_, _, HNX.out⟩⟩
                      · skip
                        as_aux_lemma =>
                          go_upto_region 36 with (go_at_call 13; refine HFK.out.mono ?_; rintro e7 w7 ⟨rfl, h7⟩; obtain rfl := h7.symm)
                          clear kq fq lq cs2 cs3 cs4 lb2 lb3 lb4 e2 e3 e4 hm3 hw3 hwt hwu
                          obtain ⟨zz, hzz⟩ : ∃ zz, zof st2 = zz := ⟨_, rfl⟩
                          have HO := Lib.hid HMK.out.1.stk
                          rw [hzz] at HO
                          have hzl : zz.length ≤ 4096 := by rw [← hzz, zof_len]; have := HMK.out.2; rw [HL.out.1] at this; omega
                          have HPU : Hid (zz.length + 1 ≤ maxLen ∧ (zz.length + 1) * 8 ≤ 140737488355328) := Lib.hid ⟨by unfold maxLen; omega, by omega⟩
                          have HZZ := Lib.hid hzz
                          have HBB := Lib.hid HMK.out.1.hb
                          clear hzz hzl
                          obtain ⟨w8, hw8⟩ : ∃ w8, wy.setCell ⟨Q, c, none⟩ (.bool true) = w8 := ⟨_, rfl⟩
                          rw [hw8] at HO HBB ⊢
                          have HW8 := Lib.hid hw8
                          clear hw8
                          go_wp2_with (at_builtin; refine wpList_push w8 rfl (.tmp 196) (.tmp 198) 39 rfl B 3 .i64 8 Tryz.underlying39 zinfo3 yv zz (c : Int) rfl HO.out rfl HPU.out.1 HPU.out.2 HBB.out ?_; intro v' w13 ho hg hne; have H13 := Lib.hid (And.intro ho hg); clear ho hg hne)
                          have HNX := Lib.hid (HI.out.there HOK.out HEV.out.2.2.2 HCL.out HQC.out HGC.out HEV.out.1 (by rw [HEV.out.2.1]; exact HK3.out) HEV.out.2.2.1 HQB.out.2 (by rw [HZZ.out]; exact H13.out.1) (by rw [HW8.out]; exact H13.out.2.1))
                          go_roundg (g2 - 1)
                          case measure => omega
                          case rel => exact ⟨e + 1, by go_num, by omega, by omega, Lib.hid ⟨_, _, HNX.out⟩⟩
                    · have HNX : Hid (Wi g r v Q B gO (e + 1) w9 wy yv q2 st2) := Lib.hid (HI.out.seen (HI.out.pr.step (fun _ _ c' hc' _ _ => by
                        have h2 := HEV.out.2.2.1
                        have : c' = c := by omega
                        rw [this]; exact HQC.out)))
                      as_aux_lemma =>
                        go_wp2_with fail
                        go_roundg (g2 - 1)
                        case measure => omega
                        case rel => exact ⟨e + 1, by go_num, by omega, by omega, Lib.hid ⟨_, _, HNX.out⟩⟩
              · have hne : (t == (v : Int)) = false := by simp [htv]
                have HTV := Lib.hid htv
                clear htv
                have HPS : Hid (Pr g v q2 (e + 1)) := Lib.hid (HI.out.pr.step (fun h => absurd (by rw [← HEV.out.1]; exact h) HTV.out))
                as_aux_lemma =>
                  go_wp2_with fail
                  go_roundg (g2 - 1)
                  case measure => omega
                  case rel => exact ⟨e + 1, by go_num, by omega, by omega, Lib.hid ⟨q2, st2, HI.out.seen HPS.out⟩⟩
end Go.Proofs.YtffilaoipcjcmaaGreat
