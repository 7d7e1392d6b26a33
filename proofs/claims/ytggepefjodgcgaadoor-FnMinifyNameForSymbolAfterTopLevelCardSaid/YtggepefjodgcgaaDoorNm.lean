/-
  NameForSymbol of the renamer. No statement of the seat is proved here.
-/
import Derived.Test.YtggepefjodgcgaaDoorAl
namespace Go.Proofs.YtggepefjodgcgaaDoor
open Go.RowKit
set_option linter.unusedVariables false
set_option linter.unusedSimpArgs false

theorem Ast.follow {w w' : World} {B Ar R T S bm n : Nat} {acs kc : Array Value} {root rk : Nat → Nat} {ps ks : List Int} {v2 v3 : Value} {g0 p0 n0 g1 p1 n1 : Nat} {D : DataW Unit} {k : Nat}
    (h : Ast w B Ar R T S bm n acs kc root rk ps ks v2 v3 g0 p0 n0 g1 p1 n1 D k) (hs : Sy w' T S 1 n kc root rk) (hg : w.grownBy w' (some S)) : Ast w' B Ar R T S bm n acs kc root rk ps ks v2 v3 g0 p0 n0 g1 p1 n1 D k := by
  have ap := h.apart
  have nR : ∀ {x y : Nat}, x ≠ y → some x ≠ some y := fun h e => h (Option.some.inj e)
  have hAS : Ar ≠ S := by
    obtain ⟨ts, cs, q1, q2, q3, q4, q5, q6⟩ := h.sy.out
    exact blk_ne h.ar q5 (by decide)
  exact ⟨h.blk.gb hg (nR (Ne.symm ap.2.2.1.2.1)), h.s0.gb hg (nR (Ne.symm ap.1.2.2.1)), h.s1.gb hg (nR (Ne.symm ap.2.1.2.2.1)), h.ne, h.mp.kept hg (nR (Ne.symm ap.2.2.2.2.1)), h.kn, hs, h.ar.gb hg (nR hAS), h.ap⟩
theorem Ast.box {w : World} {B Ar R T S bm n : Nat} {acs kc : Array Value} {root rk : Nat → Nat} {ps ks : List Int} {v2 v3 : Value} {g0 p0 n0 g1 p1 n1 : Nat} {D : DataW Unit} {k C : Nat} {cs : Array Value}
    (h : Ast w B Ar R T S bm n acs kc root rk ps ks v2 v3 g0 p0 n0 g1 p1 n1 D k) (hc : Blk w C 57 cs) (i : Nat) (v : Value) : Ast (w.setCell ⟨C, i, none⟩ v) B Ar R T S bm n acs kc root rk ps ks v2 v3 g0 p0 n0 g1 p1 n1 D k := by
  obtain ⟨ts, cs, q1, q2, q3, q4, q5, q6⟩ := h.sy.out
  have hg : w.grownBy (w.setCell ⟨C, i, none⟩ v) (some C) := gb_set (gb_refl _ _) _ _ _
  exact h.far hg ⟨blk_ne h.blk hc (by decide), blk_ne q1 hc (by decide), blk_ne q5 hc (by decide), blk_ne h.ar hc (by decide), Ne.symm (h.mp.ne hc)⟩ (h.s0.gb hg (fun e => h.s0.ne hc (by decide) (Option.some.inj e))) (h.s1.gb hg (fun e => h.s1.ne hc (by decide) (Option.some.inj e)))
/-- the name of the end t of a chain -/
noncomputable def want (ts : List ByteArray) (ks ns : List Int) (D : DataW Unit) (t : Nat) : ByteArray := open Classical in
  if nth ks t % 3 = 0 then tth ts t else if nth ns t ≠ 0 ∨ Maps.has D (kr t) = true then e0 else tth ts t
def NmP (w : World) (B Ar R T S bm n : Nat) (acs kc : Array Value) (root rk : Nat → Nat) (ps ks : List Int) (v2 v3 : Value) (g0 p0 n0 g1 p1 n1 : Nat) (D : DataW Unit) (k : Nat) (nm : ByteArray) (e : Ending) (w' : World) : Prop :=
  e = .returned (.string nm) ∧ Ast w' B Ar R T S bm n acs kc root rk ps ks v2 v3 g0 p0 n0 g1 p1 n1 D k ∧ w.grownBy w' (some S)
set_option maxHeartbeats 4000000 in
set_option maxRecDepth 100000 in
theorem nm_any (B Ar R T S bm n k : Nat) (acs kc : Array Value) (root rk : Nat → Nat) (ts : List ByteArray) (ps ks ns : List Int) (v2 v3 : Value) (g0 p0 n0 g1 p1 n1 : Nat) (D : DataW Unit) (c0 c1 : Int) (hn : n ≤ 65536) (hS0 : 0 < B ∧ B ≤ S ∧ B ≤ T)
    (hkc : Kc kc n ts ks ns) (hns : ∀ i, i < n → 0 ≤ nth ns i ∧ nth ns i < 4294967296) (hk8 : ∀ i, i < n → 0 ≤ nth ks i ∧ nth ks i < 256) (hno : NestOk ks ns c0 c1 n) (hc0 : c0 ≤ (n0 : Int)) (hc1 : c1 ≤ (n1 : Int)) (hle : n0 ≤ 200000 ∧ n1 ≤ 200000) (hH : ∀ j, j < n → root j < n ∧ rk (root j) ≤ rk j ∧ root (root j) = root j)
    (q : Nat) (hq : q < n) (w : World) (hv : Iv w) (h : Ast w B Ar R T S bm n acs kc root rk ps ks v2 v3 g0 p0 n0 g1 p1 n1 D k) :
    Calls Tryd.prog 14 #[.pointer (some ⟨R, 0, none⟩), .agg #[.int .u32 0, .int .u32 (q : Int)]] w (NmP w B Ar R T S bm n acs kc root rk ps ks v2 v3 g0 p0 n0 g1 p1 n1 D k (want ts ks ns D (root q))) := by
  obtain ⟨w1, hw1⟩ : ∃ w1, w.alloc (.cells #[.int .u32 0, .int .u32 (q : Int)] 42) = w1 := ⟨_, rfl⟩
  have g1' : w.grownBy w1 none := by rw [← hw1]; exact gb_alloc (gb_refl _ _) _
  have hb1 : Blk w1 w.heap.size 42 #[.int .u32 0, .int .u32 (q : Int)] := by rw [← hw1]; exact Blk.new _ _ _
  obtain ⟨A, hA⟩ : ∃ A, w.heap.size = A := ⟨_, rfl⟩
  rw [hA] at hb1
  have ha1 := h.grow g1'
  have hTS : S ≠ T := by
    obtain ⟨ts, cs, q1, q2, q3, q4, q5, q6⟩ := h.sy.out
    exact blk_ne q5 q1 (by decide)
  have hSA : S ≠ A := by
    have := h.sy.lt
    omega
  have hRA : R ≠ A := by
    have := h.blk.lt
    omega
  have HF := Lib.hid (fol_any T S 1 1 n kc root rk hTS (by omega) (by omega) hH (rk q + 1) q w1.drew (by omega) hq ha1.sy.drew (hv.gb g1' (by simp)).drew)
  have r6 : w1.drew.cell? ⟨R, 6, none⟩ = some (.slice (some ⟨T, 0, none⟩) 1 1) := ha1.blk.cell 6
  have x0 : w1.drew.cell? ⟨A, 0, none⟩ = some (.int .u32 0) := hb1.cell 0
  have x1 : w1.drew.cell? ⟨A, 1, none⟩ = some (.int .u32 (q : Int)) := hb1.cell 1
  have hla := hb1.lt
  have hlr := ha1.blk.lt
  have HW := Lib.hid (And.intro ha1 (And.intro hb1 (And.intro g1' (And.intro hSA hRA))))
  clear ha1 hb1 g1' hSA hRA h
  obtain ⟨t, ht⟩ : ∃ t, root q = t := ⟨_, rfl⟩
  have htn : t < n := by rw [← ht]; exact (hH q hq).1
  rw [ht] at HF ⊢
  have HK := Lib.hid (And.intro hkc (And.intro hns (And.intro hno (And.intro hc0 (And.intro hc1 hk8)))))
  clear hkc hns hno hc0 hc1 hH ht hk8 hv
  go_enter Tryd.func14, Tryd.ntmps14
  go_upto_region 1 with fail
  clear hw1
  go_cut [] (fun wc => Ast wc B Ar R T S bm n acs kc root rk ps ks v2 v3 g0 p0 n0 g1 p1 n1 D k ∧ Blk wc A 42 #[.int .u32 0, .int .u32 (t : Int)] ∧ w.grownBy wc (some S))
  case first =>
    go_region_with (go_at_call 26; refine HF.out.mono ?_; rintro e w6 ⟨rfl, hs6, hg6⟩; have hb6 := HW.out.2.1.gb (gb_und hg6) (fun e => HW.out.2.2.2.1 (Option.some.inj e).symm); have z0 := hb6.cell 0; have z1 := hb6.cell 1; have y0 := hb6.free 0; have hl6 := hb6.lt; have z2 := (hb6.set 0 (.int .u32 0)).cell 1; have y2 := (hb6.set 0 (.int .u32 0)).free 1; have H6 := Lib.hid (And.intro (HW.out.1.follow hs6 (gb_und hg6)) (And.intro (gb_und hg6) hb6)); clear hs6 hg6 hb6)
    all_goals go_wp2_with fail
    all_goals go_meet
    all_goals
      have hg7 : w6.grownBy ((w6.setCell ⟨A, 0, none⟩ (.int .u32 0)).setCell ⟨A, 1, none⟩ (.int .u32 (t : Int))) (some A) := gb_set (gb_set (gb_refl _ _) _ _ _) _ _ _
      have hx : Ast ((w6.setCell ⟨A, 0, none⟩ (.int .u32 0)).setCell ⟨A, 1, none⟩ (.int .u32 (t : Int))) B Ar R T S bm n acs kc root rk ps ks v2 v3 g0 p0 n0 g1 p1 n1 D k := by
        have h6 := H6.out.1
        have hA6 := H6.out.2.2
        have hArA : Ar ≠ A := blk_ne h6.ar hA6 (by decide)
        have hTA : T ≠ A := by
          obtain ⟨ts, cs, q1, q2, q3, q4, q5, q6⟩ := h6.sy.out
          exact blk_ne q1 hA6 (by decide)
        have hSA : S ≠ A := HW.out.2.2.2.1
        have hbA : bm ≠ A := Ne.symm (h6.mp.ne hA6)
        have s0 : g0 ≠ A := h6.s0.ne hA6 (by decide)
        have s1 : g1 ≠ A := h6.s1.ne hA6 (by decide)
        exact h6.far hg7 ⟨HW.out.2.2.2.2, hTA, hSA, hArA, hbA⟩ (h6.s0.gb hg7 (fun e => s0 (Option.some.inj e))) (h6.s1.gb hg7 (fun e => s1 (Option.some.inj e)))
      exact ⟨hx, (H6.out.2.2.set 0 _).set 1 _, gb_past (gb_trans (gb_none HW.out.2.2.1) H6.out.2.1) hg7 (by omega)⟩
  case rest =>
    obtain ⟨ha2, hb2, hg2⟩ := hcut
    have r6 : wc.drew.cell? ⟨R, 6, none⟩ = some (.slice (some ⟨T, 0, none⟩) 1 1) := ha2.blk.cell 6
    have x0 : wc.drew.cell? ⟨A, 0, none⟩ = some (.int .u32 0) := hb2.cell 0
    have x1 : wc.drew.cell? ⟨A, 1, none⟩ = some (.int .u32 (t : Int)) := hb2.cell 1
    have HG := Lib.hid (get_any T S 1 1 n kc root rk t wc.drew ha2.sy.drew htn)
    have HW2 := Lib.hid (And.intro ha2 (And.intro hb2 hg2))
    clear ha2 hb2 hg2
    go_upto_region 2 with fail
    go_region_held3 (fun w' => w'.cell? ⟨R, 6, none⟩ = some (.slice (some ⟨T, 0, none⟩) 1 1) ∧ w'.cell? ⟨A, 0, none⟩ = some (.int .u32 0) ∧ w'.cell? ⟨A, 1, none⟩ = some (.int .u32 (t : Int))) (first | (go_keep; done) | exact ⟨HA2.out.1.blk.cell 6, HA2.out.2.1.cell 0, HA2.out.2.1.cell 1⟩)
        (first | (go_at_call 23; refine HG.out.mono ?_; rintro e w2 ⟨rfl, hg2⟩; have HA2 := Lib.hid (And.intro (HW2.out.1.grow (gb_und hg2)) (And.intro (HW2.out.2.1.gb (gb_und hg2) (by simp)) (gb_trans HW2.out.2.2 (gb_none (gb_und hg2))))); clear hg2))
    clear r6 x0 x1 HG HW2
    obtain ⟨kk, hkk⟩ : ∃ kk, nth ks t = kk := ⟨_, rfl⟩
    obtain ⟨s, hss⟩ : ∃ s, nth ns t = s := ⟨_, rfl⟩
    have hkc := HK.out.1 t htn
    have hsr := HK.out.2.1 t htn
    rw [hkk, hss] at hkc
    rw [hss] at hsr
    have HV := Lib.hid (And.intro hkk (And.intro hss hkc))
    clear hkk hss hkc
    have c8 := (HA2.out.1.sy.cell (j := t * 10 + 8) (by omega) (by omega)).trans HV.out.2.2.2.2.2
    have c7 := (HA2.out.1.sy.cell (j := t * 10 + 7) (by omega) (by omega)).trans HV.out.2.2.2.2.1
    have d1 := (HA2.out.1.sy.cell (j := t * 10 + 1) (by omega) (by omega)).trans HV.out.2.2.1
    have c6 := (HA2.out.1.sy.cell (j := t * 10 + 6) (by omega) (by omega)).trans HV.out.2.2.2.1
    have HN := Lib.hid (sns_any S (t * 10) kk w2 c8 c7)
    clear c8 c7
    by_cases hpin : kk % 3 = 0
    · have e1 : slotNs kk = 4 := if_pos hpin
      rw [e1] at HN
      have HP := Lib.hid hpin
      clear hpin e1
      go_wp2_with (go_at_call 24; refine HN.out.mono ?_; rintro e w3 ⟨rfl, rfl⟩)
      go_ret
      refine ⟨?_, HA2.out.1, HA2.out.2.2⟩
      unfold want
      rw [HV.out.1, if_pos HP.out]
      rfl
    · have hns' : (slotNs kk = 0 ∧ ¬ kk % 3 = 2) ∨ (slotNs kk = 1 ∧ kk % 3 = 2) := by
        unfold slotNs nsOf
        by_cases e : kk % 3 = 2
        · right; rw [if_neg hpin, if_pos e]; exact ⟨rfl, e⟩
        · left; rw [if_neg hpin, if_neg e]; exact ⟨rfl, e⟩
      rcases hns' with ⟨hns, hkind⟩ | ⟨hns, hkind⟩
      · rw [hns] at HN
        have HP := Lib.hid hpin
        have HKD := Lib.hid hkind
        clear hpin hns hkind
        by_cases hs0 : s = 0
        · have hs0' := hs0
          subst hs0'
          have c6' : w2.cell? ⟨S, t * 10 + 6, none⟩ = some (.int .u32 0) := by rw [c6, if_pos rfl]
          clear c6
          obtain ⟨C, hC⟩ : ∃ C, w2.heap.size = C := ⟨_, rfl⟩
          go_upto_region 7 with (go_at_call 24; refine HN.out.mono ?_; rintro e w4 ⟨rfl, rfl⟩)
          obtain ⟨w3, hw3⟩ : ∃ w3, w4.alloc (.cells #[.int .u32 0] 57) = w3 := ⟨_, rfl⟩
          have hg3 : w4.grownBy w3 none := by rw [← hw3]; exact gb_alloc (gb_refl _ _) _
          have hb3 := Blk.new w4 57 #[.int .u32 0]
          rw [hC, hw3] at hb3
          rw [hw3]
          have HCL := Lib.hid (show w.heap.size ≤ C by have := HA2.out.2.2.size; omega)
          clear hw3 hC
          have b30 := hb3.cell 0
          have HA3 := Lib.hid (And.intro (HA2.out.1.grow hg3) (And.intro hb3 (And.intro (gb_trans HA2.out.2.2 (gb_none hg3)) (HA2.out.2.1.gb hg3 (by simp)))))
          clear hb3 hg3
          have HVV := Lib.hid (valid_any 0 w3)
          go_upto_region 8 with (go_at_call 27; refine HVV.out.mono ?_; rintro e w5 ⟨rfl, hg5⟩; have H5 := Lib.hid (And.intro (HA3.out.1.grow hg5) (And.intro (HA3.out.2.1.gb hg5 (by simp)) (And.intro (gb_trans HA3.out.2.2.1 (gb_none hg5)) (HA3.out.2.2.2.gb hg5 (by simp))))); clear hg5)
          clear b30
          obtain ⟨cc, hat, hlk⟩ := look_all H5.out.1.mp (show t < 4294967296 by omega)
          have r5 : w5.cell? ⟨R, 5, none⟩ = some (.map (some bm)) := H5.out.1.blk.cell 5
          have x0 : w5.cell? ⟨A, 0, none⟩ = some (.int .u32 0) := H5.out.2.2.2.cell 0
          have x1 : w5.cell? ⟨A, 1, none⟩ = some (.int .u32 (t : Int)) := H5.out.2.2.2.cell 1
          have HAT := Lib.hid hat
          clear hat
          obtain ⟨bb, hbb⟩ : ∃ bb, Maps.has D (kr t) = bb := ⟨_, rfl⟩
          rw [hbb] at hlk
          have HBB := Lib.hid hbb
          clear hbb
          go_quiet (fail)
          obtain ⟨wq, hwq⟩ : ∃ wq, w5.drewN nq = wq := ⟨_, rfl⟩
          have hgq : w5.grownBy wq none := by rw [← hwq]; exact gb_drewN _ _
          have HAq := Lib.hid (And.intro (H5.out.1.grow hgq) (And.intro (H5.out.2.1.gb hgq (by simp)) (gb_trans H5.out.2.2.1 (gb_none hgq))))
          rw [hwq]
          clear hwq hgq hlk r5 x0 x1 d1
          cases bb
          · have d1 := (HAq.out.1.sy.cell (j := t * 10 + 1) (by omega) (by omega)).trans HV.out.2.2.1
            go_wp2_with fail
            go_ret
            refine ⟨?_, HAq.out.1, HAq.out.2.2⟩
            unfold want
            rw [HV.out.1, if_neg HP.out, if_neg (by rw [HV.out.2.1, HBB.out]; simp)]
            rfl
          · obtain ⟨i, hi, hit⟩ := HAq.out.1.kn.at_ t htn HBB.out
            rw [HAT.out] at hi
            obtain rfl : cc = (i : Int) := by simpa using hi
            have hidx : i < n0 := by
              simp only [HV.out.1, if_neg HKD.out] at hit
              exact hit
            clear hi hit
            have hbnd : n0 ≤ 200000 := hle.1
            have HMK := Lib.hid (fun (w : World) => mk_any (i : Int) (by omega) (by omega) w)
            go_upto_region 12 with (go_at_call 22; refine (HMK.out _).mono ?_; rintro e w7 ⟨rfl, hg7⟩; have hb7 := HAq.out.2.1.gb hg7 (by simp); have q0 := hb7.cell 0; have q1 := hb7.free 0; have hl7 := hb7.lt; have H7 := Lib.hid (And.intro (HAq.out.1.grow hg7) (And.intro hb7 (gb_trans HAq.out.2.2 (gb_none hg7)))); clear hg7 hb7)
            have HZ := Lib.hid (And.intro (H7.out.1.box H7.out.2.1 0 (.int .u32 (4294967295 - (i : Int)))) (And.intro (H7.out.2.1.set 0 (.int .u32 (4294967295 - (i : Int)))) (gb_past H7.out.2.2 (gb_set (gb_refl _ (some C)) 0 none (.int .u32 (4294967295 - (i : Int)))) HCL.out)))
            clear q0 q1 hl7 c6' 
            obtain ⟨wq, hwq⟩ : ∃ wq, w7.setCell ⟨C, 0, none⟩ (.int .u32 (4294967295 - (i : Int))) = wq := ⟨_, rfl⟩
            rw [hwq] at HZ ⊢
            clear hwq
            have hname : ∃ cur, B ≤ g0 ∧ Blk wq g0 80 cur ∧ cur[i * 3]? = some (.string e0) := by
              obtain ⟨cur, z1, z2, z3, z4, z5, z6⟩ := HZ.out.1.s0
              exact ⟨cur, z1, z2, (z6 i hidx).1⟩
            obtain ⟨cur, hBg, z2, z6⟩ := hname
            have HCU := Lib.hid (And.intro z2 z6)
            clear hBg z2 z6
            have rr : wq.drew.cell? ⟨R, 1, none⟩ = some (.slice (some ⟨g0, 0, none⟩) n0 p0) := HZ.out.1.blk.cell 1
            have xx : wq.drew.cell? ⟨C, 0, none⟩ = some (.int .u32 (4294967295 - (i : Int))) := HZ.out.2.1.cell 0
            have nn : wq.drew.cell? ⟨g0, i * 3, none⟩ = some (.string e0) := (HCU.out.1.cell _).trans HCU.out.2
            have HGI := Lib.hid (fun (w : World) => geti_any (i : Int) (by omega) (by omega) w)
            go_upto_region 12 with fail
            go_region_held3 (fun w' => w'.cell? ⟨R, 1, none⟩ = some (.slice (some ⟨g0, 0, none⟩) n0 p0) ∧ w'.cell? ⟨C, 0, none⟩ = some (.int .u32 (4294967295 - (i : Int))) ∧ w'.cell? ⟨g0, i * 3, none⟩ = some (.string e0)) (first | (go_keep; done) | exact HS.out)
                (first | (go_at_call 28; refine (HGI.out _).mono ?_; rintro e wg ⟨rfl, hgg⟩; have HE := Lib.hid (And.intro (HZ.out.1.grow (gb_und hgg)) (gb_trans HZ.out.2.2 (gb_none (gb_und hgg)))); have HS : Hid (wg.cell? ⟨R, 1, none⟩ = some (.slice (some ⟨g0, 0, none⟩) n0 p0) ∧ wg.cell? ⟨C, 0, none⟩ = some (.int .u32 (4294967295 - (i : Int))) ∧ wg.cell? ⟨g0, i * 3, none⟩ = some (.string e0)) := Lib.hid ⟨HE.out.1.blk.cell 1, (HZ.out.2.1.gb (gb_und hgg) (by simp)).cell 0, ((HCU.out.1.gb (gb_und hgg) (by simp)).cell _).trans HCU.out.2⟩; clear hgg))
            go_wp2_with fail
            go_ret
            refine ⟨?_, HE.out.1, HE.out.2⟩
            unfold want
            rw [HV.out.1, if_neg HP.out, if_pos (Or.inr HBB.out)]
            rfl
        · have hnok : s - 1 < c0 := by
            have := HK.out.2.2.1 t htn (by rw [HV.out.1]; exact HP.out) (by rw [HV.out.2.1]; exact hs0)
            rw [HV.out.1, HV.out.2.1, if_neg HKD.out] at this
            exact this
          obtain ⟨i, hi⟩ : ∃ i : Nat, s = (i : Int) + 1 := ⟨(s - 1).toNat, by omega⟩
          have hbnd : n0 ≤ 200000 := hle.1
          have hidx : i < n0 := by have := HK.out.2.2.2.1; omega
          have c6' : w2.cell? ⟨S, t * 10 + 6, none⟩ = some (.int .u32 (4294967295 - (i : Int))) := by rw [c6, if_neg hs0, hi]; congr 3; omega
          have HSN := Lib.hid hs0
          have hvt : ((4294967295 - (i : Int)) == 0) = false := by simp; omega
          clear c6 hnok hs0
          obtain ⟨C, hC⟩ : ∃ C, w2.heap.size = C := ⟨_, rfl⟩
          go_upto_region 7 with (go_at_call 24; refine HN.out.mono ?_; rintro e w4 ⟨rfl, rfl⟩)
          obtain ⟨w3, hw3⟩ : ∃ w3, w4.alloc (.cells #[.int .u32 (4294967295 - (i : Int))] 57) = w3 := ⟨_, rfl⟩
          have hg3 : w4.grownBy w3 none := by rw [← hw3]; exact gb_alloc (gb_refl _ _) _
          have hb3 := Blk.new w4 57 #[.int .u32 (4294967295 - (i : Int))]
          rw [hC, hw3] at hb3
          rw [hw3]
          have HCL := Lib.hid (show w.heap.size ≤ C by have := HA2.out.2.2.size; omega)
          clear hw3 hC
          have b30 := hb3.cell 0
          have HA3 := Lib.hid (And.intro (HA2.out.1.grow hg3) (And.intro hb3 (And.intro (gb_trans HA2.out.2.2 (gb_none hg3)) (HA2.out.2.1.gb hg3 (by simp)))))
          clear hb3 hg3
          have HVV := Lib.hid (valid_any (4294967295 - (i : Int)) w3)
          rw [hvt] at HVV
          go_upto_region 12 with (go_at_call 27; refine HVV.out.mono ?_; rintro e w5 ⟨rfl, hg5⟩; have H5 := Lib.hid (And.intro (HA3.out.1.grow hg5) (And.intro (HA3.out.2.1.gb hg5 (by simp)) (And.intro (gb_trans HA3.out.2.2.1 (gb_none hg5)) (HA3.out.2.2.2.gb hg5 (by simp))))); clear hg5)
          clear b30 d1 c6' hi
          obtain ⟨wq, hwq⟩ : ∃ wq, w5 = wq := ⟨_, rfl⟩
          have HZ := Lib.hid (And.intro H5.out.1 (And.intro H5.out.2.1 H5.out.2.2.1))
          rw [hwq] at HZ ⊢
          clear hwq
          have hname : ∃ cur, B ≤ g0 ∧ Blk wq g0 80 cur ∧ cur[i * 3]? = some (.string e0) := by
            obtain ⟨cur, z1, z2, z3, z4, z5, z6⟩ := HZ.out.1.s0
            exact ⟨cur, z1, z2, (z6 i hidx).1⟩
          obtain ⟨cur, hBg, z2, z6⟩ := hname
          have HCU := Lib.hid (And.intro z2 z6)
          clear hBg z2 z6
          have rr : wq.drew.cell? ⟨R, 1, none⟩ = some (.slice (some ⟨g0, 0, none⟩) n0 p0) := HZ.out.1.blk.cell 1
          have xx : wq.drew.cell? ⟨C, 0, none⟩ = some (.int .u32 (4294967295 - (i : Int))) := HZ.out.2.1.cell 0
          have nn : wq.drew.cell? ⟨g0, i * 3, none⟩ = some (.string e0) := (HCU.out.1.cell _).trans HCU.out.2
          have HGI := Lib.hid (fun (w : World) => geti_any (i : Int) (by omega) (by omega) w)
          go_upto_region 12 with fail
          go_region_held3 (fun w' => w'.cell? ⟨R, 1, none⟩ = some (.slice (some ⟨g0, 0, none⟩) n0 p0) ∧ w'.cell? ⟨C, 0, none⟩ = some (.int .u32 (4294967295 - (i : Int))) ∧ w'.cell? ⟨g0, i * 3, none⟩ = some (.string e0)) (first | (go_keep; done) | exact HS.out)
              (first | (go_at_call 28; refine (HGI.out _).mono ?_; rintro e wg ⟨rfl, hgg⟩; have HE := Lib.hid (And.intro (HZ.out.1.grow (gb_und hgg)) (gb_trans HZ.out.2.2 (gb_none (gb_und hgg)))); have HS : Hid (wg.cell? ⟨R, 1, none⟩ = some (.slice (some ⟨g0, 0, none⟩) n0 p0) ∧ wg.cell? ⟨C, 0, none⟩ = some (.int .u32 (4294967295 - (i : Int))) ∧ wg.cell? ⟨g0, i * 3, none⟩ = some (.string e0)) := Lib.hid ⟨HE.out.1.blk.cell 1, (HZ.out.2.1.gb (gb_und hgg) (by simp)).cell 0, ((HCU.out.1.gb (gb_und hgg) (by simp)).cell _).trans HCU.out.2⟩; clear hgg))
          go_wp2_with fail
          go_ret
          refine ⟨?_, HE.out.1, HE.out.2⟩
          unfold want
          rw [HV.out.1, if_neg HP.out, if_pos (Or.inl (by rw [HV.out.2.1]; exact HSN.out))]
          rfl
      · rw [hns] at HN
        have HP := Lib.hid hpin
        have HKD := Lib.hid hkind
        clear hpin hns hkind
        by_cases hs0 : s = 0
        · have hs0' := hs0
          subst hs0'
          have c6' : w2.cell? ⟨S, t * 10 + 6, none⟩ = some (.int .u32 0) := by rw [c6, if_pos rfl]
          clear c6
          obtain ⟨C, hC⟩ : ∃ C, w2.heap.size = C := ⟨_, rfl⟩
          go_upto_region 7 with (go_at_call 24; refine HN.out.mono ?_; rintro e w4 ⟨rfl, rfl⟩)
          obtain ⟨w3, hw3⟩ : ∃ w3, w4.alloc (.cells #[.int .u32 0] 57) = w3 := ⟨_, rfl⟩
          have hg3 : w4.grownBy w3 none := by rw [← hw3]; exact gb_alloc (gb_refl _ _) _
          have hb3 := Blk.new w4 57 #[.int .u32 0]
          rw [hC, hw3] at hb3
          rw [hw3]
          have HCL := Lib.hid (show w.heap.size ≤ C by have := HA2.out.2.2.size; omega)
          clear hw3 hC
          have b30 := hb3.cell 0
          have HA3 := Lib.hid (And.intro (HA2.out.1.grow hg3) (And.intro hb3 (And.intro (gb_trans HA2.out.2.2 (gb_none hg3)) (HA2.out.2.1.gb hg3 (by simp)))))
          clear hb3 hg3
          have HVV := Lib.hid (valid_any 0 w3)
          go_upto_region 8 with (go_at_call 27; refine HVV.out.mono ?_; rintro e w5 ⟨rfl, hg5⟩; have H5 := Lib.hid (And.intro (HA3.out.1.grow hg5) (And.intro (HA3.out.2.1.gb hg5 (by simp)) (And.intro (gb_trans HA3.out.2.2.1 (gb_none hg5)) (HA3.out.2.2.2.gb hg5 (by simp))))); clear hg5)
          clear b30
          obtain ⟨cc, hat, hlk⟩ := look_all H5.out.1.mp (show t < 4294967296 by omega)
          have r5 : w5.cell? ⟨R, 5, none⟩ = some (.map (some bm)) := H5.out.1.blk.cell 5
          have x0 : w5.cell? ⟨A, 0, none⟩ = some (.int .u32 0) := H5.out.2.2.2.cell 0
          have x1 : w5.cell? ⟨A, 1, none⟩ = some (.int .u32 (t : Int)) := H5.out.2.2.2.cell 1
          have HAT := Lib.hid hat
          clear hat
          obtain ⟨bb, hbb⟩ : ∃ bb, Maps.has D (kr t) = bb := ⟨_, rfl⟩
          rw [hbb] at hlk
          have HBB := Lib.hid hbb
          clear hbb
          go_quiet (fail)
          obtain ⟨wq, hwq⟩ : ∃ wq, w5.drewN nq = wq := ⟨_, rfl⟩
          have hgq : w5.grownBy wq none := by rw [← hwq]; exact gb_drewN _ _
          have HAq := Lib.hid (And.intro (H5.out.1.grow hgq) (And.intro (H5.out.2.1.gb hgq (by simp)) (gb_trans H5.out.2.2.1 (gb_none hgq))))
          rw [hwq]
          clear hwq hgq hlk r5 x0 x1 d1
          cases bb
          · have d1 := (HAq.out.1.sy.cell (j := t * 10 + 1) (by omega) (by omega)).trans HV.out.2.2.1
            go_wp2_with fail
            go_ret
            refine ⟨?_, HAq.out.1, HAq.out.2.2⟩
            unfold want
            rw [HV.out.1, if_neg HP.out, if_neg (by rw [HV.out.2.1, HBB.out]; simp)]
            rfl
          · obtain ⟨i, hi, hit⟩ := HAq.out.1.kn.at_ t htn HBB.out
            rw [HAT.out] at hi
            obtain rfl : cc = (i : Int) := by simpa using hi
            have hidx : i < n1 := by
              simp only [HV.out.1, if_pos HKD.out] at hit
              exact hit
            clear hi hit
            have hbnd : n1 ≤ 200000 := hle.2
            have HMK := Lib.hid (fun (w : World) => mk_any (i : Int) (by omega) (by omega) w)
            go_upto_region 12 with (go_at_call 22; refine (HMK.out _).mono ?_; rintro e w7 ⟨rfl, hg7⟩; have hb7 := HAq.out.2.1.gb hg7 (by simp); have q0 := hb7.cell 0; have q1 := hb7.free 0; have hl7 := hb7.lt; have H7 := Lib.hid (And.intro (HAq.out.1.grow hg7) (And.intro hb7 (gb_trans HAq.out.2.2 (gb_none hg7)))); clear hg7 hb7)
            have HZ := Lib.hid (And.intro (H7.out.1.box H7.out.2.1 0 (.int .u32 (4294967295 - (i : Int)))) (And.intro (H7.out.2.1.set 0 (.int .u32 (4294967295 - (i : Int)))) (gb_past H7.out.2.2 (gb_set (gb_refl _ (some C)) 0 none (.int .u32 (4294967295 - (i : Int)))) HCL.out)))
            clear q0 q1 hl7 c6' 
            obtain ⟨wq, hwq⟩ : ∃ wq, w7.setCell ⟨C, 0, none⟩ (.int .u32 (4294967295 - (i : Int))) = wq := ⟨_, rfl⟩
            rw [hwq] at HZ ⊢
            clear hwq
            have hname : ∃ cur, B ≤ g1 ∧ Blk wq g1 80 cur ∧ cur[i * 3]? = some (.string e0) := by
              obtain ⟨cur, z1, z2, z3, z4, z5, z6⟩ := HZ.out.1.s1
              exact ⟨cur, z1, z2, (z6 i hidx).1⟩
            obtain ⟨cur, hBg, z2, z6⟩ := hname
            have HCU := Lib.hid (And.intro z2 z6)
            clear hBg z2 z6
            have rr : wq.drew.cell? ⟨R, 2, none⟩ = some (.slice (some ⟨g1, 0, none⟩) n1 p1) := HZ.out.1.blk.cell 2
            have xx : wq.drew.cell? ⟨C, 0, none⟩ = some (.int .u32 (4294967295 - (i : Int))) := HZ.out.2.1.cell 0
            have nn : wq.drew.cell? ⟨g1, i * 3, none⟩ = some (.string e0) := (HCU.out.1.cell _).trans HCU.out.2
            have HGI := Lib.hid (fun (w : World) => geti_any (i : Int) (by omega) (by omega) w)
            go_upto_region 12 with fail
            go_region_held3 (fun w' => w'.cell? ⟨R, 2, none⟩ = some (.slice (some ⟨g1, 0, none⟩) n1 p1) ∧ w'.cell? ⟨C, 0, none⟩ = some (.int .u32 (4294967295 - (i : Int))) ∧ w'.cell? ⟨g1, i * 3, none⟩ = some (.string e0)) (first | (go_keep; done) | exact HS.out)
                (first | (go_at_call 28; refine (HGI.out _).mono ?_; rintro e wg ⟨rfl, hgg⟩; have HE := Lib.hid (And.intro (HZ.out.1.grow (gb_und hgg)) (gb_trans HZ.out.2.2 (gb_none (gb_und hgg)))); have HS : Hid (wg.cell? ⟨R, 2, none⟩ = some (.slice (some ⟨g1, 0, none⟩) n1 p1) ∧ wg.cell? ⟨C, 0, none⟩ = some (.int .u32 (4294967295 - (i : Int))) ∧ wg.cell? ⟨g1, i * 3, none⟩ = some (.string e0)) := Lib.hid ⟨HE.out.1.blk.cell 2, (HZ.out.2.1.gb (gb_und hgg) (by simp)).cell 0, ((HCU.out.1.gb (gb_und hgg) (by simp)).cell _).trans HCU.out.2⟩; clear hgg))
            go_wp2_with fail
            go_ret
            refine ⟨?_, HE.out.1, HE.out.2⟩
            unfold want
            rw [HV.out.1, if_neg HP.out, if_pos (Or.inr HBB.out)]
            rfl
        · have hnok : s - 1 < c1 := by
            have := HK.out.2.2.1 t htn (by rw [HV.out.1]; exact HP.out) (by rw [HV.out.2.1]; exact hs0)
            rw [HV.out.1, HV.out.2.1, if_pos HKD.out] at this
            exact this
          obtain ⟨i, hi⟩ : ∃ i : Nat, s = (i : Int) + 1 := ⟨(s - 1).toNat, by omega⟩
          have hbnd : n1 ≤ 200000 := hle.2
          have hidx : i < n1 := by have := HK.out.2.2.2.2.1; omega
          have c6' : w2.cell? ⟨S, t * 10 + 6, none⟩ = some (.int .u32 (4294967295 - (i : Int))) := by rw [c6, if_neg hs0, hi]; congr 3; omega
          have HSN := Lib.hid hs0
          have hvt : ((4294967295 - (i : Int)) == 0) = false := by simp; omega
          clear c6 hnok hs0
          obtain ⟨C, hC⟩ : ∃ C, w2.heap.size = C := ⟨_, rfl⟩
          go_upto_region 7 with (go_at_call 24; refine HN.out.mono ?_; rintro e w4 ⟨rfl, rfl⟩)
          obtain ⟨w3, hw3⟩ : ∃ w3, w4.alloc (.cells #[.int .u32 (4294967295 - (i : Int))] 57) = w3 := ⟨_, rfl⟩
          have hg3 : w4.grownBy w3 none := by rw [← hw3]; exact gb_alloc (gb_refl _ _) _
          have hb3 := Blk.new w4 57 #[.int .u32 (4294967295 - (i : Int))]
          rw [hC, hw3] at hb3
          rw [hw3]
          have HCL := Lib.hid (show w.heap.size ≤ C by have := HA2.out.2.2.size; omega)
          clear hw3 hC
          have b30 := hb3.cell 0
          have HA3 := Lib.hid (And.intro (HA2.out.1.grow hg3) (And.intro hb3 (And.intro (gb_trans HA2.out.2.2 (gb_none hg3)) (HA2.out.2.1.gb hg3 (by simp)))))
          clear hb3 hg3
          have HVV := Lib.hid (valid_any (4294967295 - (i : Int)) w3)
          rw [hvt] at HVV
          go_upto_region 12 with (go_at_call 27; refine HVV.out.mono ?_; rintro e w5 ⟨rfl, hg5⟩; have H5 := Lib.hid (And.intro (HA3.out.1.grow hg5) (And.intro (HA3.out.2.1.gb hg5 (by simp)) (And.intro (gb_trans HA3.out.2.2.1 (gb_none hg5)) (HA3.out.2.2.2.gb hg5 (by simp))))); clear hg5)
          clear b30 d1 c6' hi
          obtain ⟨wq, hwq⟩ : ∃ wq, w5 = wq := ⟨_, rfl⟩
          have HZ := Lib.hid (And.intro H5.out.1 (And.intro H5.out.2.1 H5.out.2.2.1))
          rw [hwq] at HZ ⊢
          clear hwq
          have hname : ∃ cur, B ≤ g1 ∧ Blk wq g1 80 cur ∧ cur[i * 3]? = some (.string e0) := by
            obtain ⟨cur, z1, z2, z3, z4, z5, z6⟩ := HZ.out.1.s1
            exact ⟨cur, z1, z2, (z6 i hidx).1⟩
          obtain ⟨cur, hBg, z2, z6⟩ := hname
          have HCU := Lib.hid (And.intro z2 z6)
          clear hBg z2 z6
          have rr : wq.drew.cell? ⟨R, 2, none⟩ = some (.slice (some ⟨g1, 0, none⟩) n1 p1) := HZ.out.1.blk.cell 2
          have xx : wq.drew.cell? ⟨C, 0, none⟩ = some (.int .u32 (4294967295 - (i : Int))) := HZ.out.2.1.cell 0
          have nn : wq.drew.cell? ⟨g1, i * 3, none⟩ = some (.string e0) := (HCU.out.1.cell _).trans HCU.out.2
          have HGI := Lib.hid (fun (w : World) => geti_any (i : Int) (by omega) (by omega) w)
          go_upto_region 12 with fail
          go_region_held3 (fun w' => w'.cell? ⟨R, 2, none⟩ = some (.slice (some ⟨g1, 0, none⟩) n1 p1) ∧ w'.cell? ⟨C, 0, none⟩ = some (.int .u32 (4294967295 - (i : Int))) ∧ w'.cell? ⟨g1, i * 3, none⟩ = some (.string e0)) (first | (go_keep; done) | exact HS.out)
              (first | (go_at_call 28; refine (HGI.out _).mono ?_; rintro e wg ⟨rfl, hgg⟩; have HE := Lib.hid (And.intro (HZ.out.1.grow (gb_und hgg)) (gb_trans HZ.out.2.2 (gb_none (gb_und hgg)))); have HS : Hid (wg.cell? ⟨R, 2, none⟩ = some (.slice (some ⟨g1, 0, none⟩) n1 p1) ∧ wg.cell? ⟨C, 0, none⟩ = some (.int .u32 (4294967295 - (i : Int))) ∧ wg.cell? ⟨g1, i * 3, none⟩ = some (.string e0)) := Lib.hid ⟨HE.out.1.blk.cell 2, (HZ.out.2.1.gb (gb_und hgg) (by simp)).cell 0, ((HCU.out.1.gb (gb_und hgg) (by simp)).cell _).trans HCU.out.2⟩; clear hgg))
          go_wp2_with fail
          go_ret
          refine ⟨?_, HE.out.1, HE.out.2⟩
          unfold want
          rw [HV.out.1, if_neg HP.out, if_pos (Or.inl (by rw [HV.out.2.1]; exact HSN.out))]
          rfl
end Go.Proofs.YtggepefjodgcgaaDoor
