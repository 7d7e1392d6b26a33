/-
  AccumulateSymbolCount, walked. No statement of the seat is proved here.
-/
import Derived.Test.YtmpfgkiljfoicaaDoorAc
import Derived.Laws.LoneSync
namespace Go.Proofs.YtmpfgkiljfoicaaDoor
open Go.RowKit
set_option linter.unusedVariables false
set_option linter.unusedSimpArgs false

theorem info51 : (Tryd.prog.info? 91).map (fun i => (i.zero, i.size, i.bytes)) = some (some (.agg #[.int .u32 0, .int .u32 0, .int .u32 0, .int .u32 0]), 4, 16) := by kernel_rfl
theorem addu (a : Addr) (x y : Int) (w : World) (hc : w.cell? a = some (.int .u32 x)) (hz : w.frozen? a = false) :
    (callFunc 23 #[.pointer (some a), .int .u32 y]).run Tryd.prog w = .ok (.value (.int .u32 ((x + y) % 4294967296))) (w.setCell a (.int .u32 ((x + y) % 4294967296))) :=
  run_call_add (P := Tryd.prog) Tryd.func23 (by kernel_rfl) (by kernel_rfl) (by kernel_rfl) .u32 (by kernel_rfl) (y := y) (s := (x + y) % 4294967296) hc hz (by simp [go_sem, IntKind.wrap_u32])
theorem stou (a : Addr) (y : Int) (u : Value) (w : World) (hc : w.cell? a = some u) (hz : w.frozen? a = false) :
    (callFunc 25 #[.pointer (some a), .int .u32 y]).run Tryd.prog w = .ok (.value (.tuple #[])) (w.setCell a (.int .u32 y)) :=
  run_call_store (P := Tryd.prog) Tryd.func25 (by kernel_rfl) (by kernel_rfl) (by kernel_rfl) (by kernel_rfl) (k := .u32) hc hz
theorem prv_any (k : Int) (h : k = 27 ∨ k = 18) (w : World) : Calls Tryd.prog 31 #[.int .u8 k] w fun e w' => e = .returned (.bool false) ∧ w' = w := by
  rcases h with rfl | rfl
  all_goals
    go_enter Tryd.func31, Tryd.ntmps31
    go_wp2
    go_ret
    exact ⟨rfl, rfl⟩
set_option maxRecDepth 100000 in
theorem sns_any (m : Pm) (hm : m.Ok) (S i : Nat) (hi : i < m.n) (w : World) (c8 : w.cell? ⟨S, i * 10 + 8, none⟩ = some (.int .u8 (m.kd i))) (c7 : w.cell? ⟨S, i * 10 + 7, none⟩ = some (.int .u16 (m.fg i))) :
    Calls Tryd.prog 20 #[.pointer (some ⟨S, i * 10, none⟩)] w fun e w' => e = .returned (.int .u8 (m.ns i)) ∧ w' = w := by
  have hk := hm.kd i hi
  have hf := hm.fg i hi
  obtain ⟨z, hz⟩ : ∃ z, m.ns i = z := ⟨_, rfl⟩
  have hz2 := hz
  unfold Pm.ns at hz2
  rw [hz]
  obtain ⟨k, hkk⟩ : ∃ k, m.kd i = k := ⟨_, rfl⟩
  obtain ⟨f, hff⟩ : ∃ f, m.fg i = f := ⟨_, rfl⟩
  rw [hkk] at hk hz2 c8
  rw [hff] at hf hz2 c7
  clear hkk hff hz hm
  rcases hk with rfl | rfl | rfl
  · obtain ⟨bb, hbb⟩ : ∃ bb, (f / 1 % 2 == 1) = bb := ⟨_, rfl⟩
    have HH := Lib.hid (fun (w : World) => has_any f 1 hf (.inl rfl) w)
    rw [hbb] at HH
    rcases hf with rfl | rfl | rfl | rfl
    all_goals
      simp at hz2 hbb
      subst hz2
      subst hbb
      go_enter Tryd.func20, Tryd.ntmps20
      go_wp2_with (first | (go_at_call 24; refine (HH.out _).mono ?_; rintro e wk ⟨rfl, rfl⟩) | (go_at_call 31; refine (prv_any _ (by simp) _).mono ?_; rintro e wk ⟨rfl, rfl⟩))
      go_ret
      exact ⟨rfl, rfl⟩
  · obtain ⟨bb, hbb⟩ : ∃ bb, (f / 1 % 2 == 1) = bb := ⟨_, rfl⟩
    have HH := Lib.hid (fun (w : World) => has_any f 1 hf (.inl rfl) w)
    rw [hbb] at HH
    rcases hf with rfl | rfl | rfl | rfl
    all_goals
      simp at hz2 hbb
      subst hz2
      subst hbb
      go_enter Tryd.func20, Tryd.ntmps20
      go_wp2_with (first | (go_at_call 24; refine (HH.out _).mono ?_; rintro e wk ⟨rfl, rfl⟩) | (go_at_call 31; refine (prv_any _ (by simp) _).mono ?_; rintro e wk ⟨rfl, rfl⟩))
      go_ret
      exact ⟨rfl, rfl⟩
  · simp at hz2
    subst hz2
    go_enter Tryd.func20, Tryd.ntmps20
    go_wp2
    go_ret
    exact ⟨rfl, rfl⟩
theorem Pm.hit_not (m : Pm) {a : Int} {t r : Nat} (hr : m.root t = r) (h : m.nx r = 0 ∨ ¬ m.ns r = a) (hm : m.Ok) : ∀ j, j < m.c → m.hit a j t = false := fun j hj => by
  have hc := hm.hc
  unfold Pm.hit
  rw [hr]
  rcases h with h | h
  · rw [h]
    simp
    intro _
    omega
  · simp [h]
set_option maxHeartbeats 8000000 in
set_option maxRecDepth 100000 in
theorem ac_any (m : Pm) (hm : m.Ok) (B R T S A X g0 g1 : Nat) (kc : Array Value) (v0 v2 v3 vm v : Value) (L : List Nat) (hL : L.length ≤ 65536)
    (hkc : Kc m kc) (t : Nat) (htn : t < m.n) (c : Int) (huc : m.us t = c) (w : World) (hB : B ≤ w.heap.size) (h : St m w B R T S A X g0 g1 kc v0 v2 v3 vm v L) :
    Calls Tryd.prog 10 #[.pointer (some ⟨R, 0, none⟩), .pointer (some ⟨A, 0, none⟩), .agg #[.int .u32 0, .int .u32 (t : Int)], .int .u32 c, .slice (some ⟨X, 0, none⟩) 1 1] w (AcP m w B R T S A X g0 g1 kc v0 v2 v3 vm v L t) := by
  have hkk : (m.es L).length ≤ 65536 := Nat.le_trans (m.es_len L) hL
  obtain ⟨w1, hw1⟩ : ∃ w1, w.alloc (.cells #[.int .u32 0, .int .u32 (t : Int)] 30) = w1 := ⟨_, rfl⟩
  have g1' : w.grownBy w1 none := by rw [← hw1]; exact gb_alloc (gb_refl _ _) _
  have hb1 : Blk w1 w.heap.size 30 #[.int .u32 0, .int .u32 (t : Int)] := by rw [← hw1]; exact Blk.new _ _ _
  obtain ⟨F, hF⟩ : ∃ F, w.heap.size = F := ⟨_, rfl⟩
  rw [hF] at hb1
  have ha1 := h.grow g1'
  have h0F : 0 ≠ F := by have := h.le; omega
  have hTS : S ≠ T := by
    obtain ⟨ts, cs, q1, q2, q3, q4, q5, q6⟩ := h.sy.out
    exact blk_ne q5 q1 (by decide)
  have hSA := (ha1.far hb1 (by decide) h0F)
  have hle0 := h.le
  obtain ⟨r, hrt⟩ : ∃ r, m.root t = r := ⟨_, rfl⟩
  have HF := Lib.hid (fol_any T S 1 1 m.n kc m.root m.rk hTS (by omega) (by omega) hm.rt (m.rk t + 1) t w1.drew (by omega) htn ha1.sy.drew ha1.iv.drew)
  rw [hrt] at HF
  have hrn : r < m.n := by have := (hm.rt t htn).1; rw [hrt] at this; exact this
  have r6 : w1.drew.cell? ⟨R, 6, none⟩ = some (.slice (some ⟨T, 0, none⟩) 1 1) := ha1.blk.cell 6
  have x0 : w1.drew.cell? ⟨F, 0, none⟩ = some (.int .u32 0) := hb1.cell 0
  have x1 : w1.drew.cell? ⟨F, 1, none⟩ = some (.int .u32 (t : Int)) := hb1.cell 1
  have hla := hb1.lt
  have hlr := ha1.blk.lt
  have HW := Lib.hid (And.intro ha1 (And.intro hb1 (And.intro g1' (And.intro hSA h0F))))
  have HROW := Lib.hid (fun g (hg : v.ownBlock = some g) => h.row hg)
  clear ha1 hb1 g1' hSA h
  have HK := Lib.hid (And.intro hm (And.intro hkc (And.intro hrt huc)))
  have hkr := hkc r hrn
  have hnx := hm.nx r hrn
  have hfr := hm.fg r hrn
  have hns := (show m.ns r = 4 ∨ m.ns r = 0 ∨ m.ns r = 1 from by unfold Pm.ns; split; exact .inl rfl; split; exact .inr (.inr rfl); exact .inr (.inl rfl))
  have hcb := hm.hc
  obtain ⟨nc, hnc⟩ : ∃ nc, m.c = nc := ⟨_, rfl⟩
  rw [hnc] at hcb hnx
  have HKR := Lib.hid (And.intro hkr (And.intro hnx (And.intro hfr (And.intro hns (And.intro hnc hcb)))))
  clear hkc hm hrt huc hkr hnx hfr hns hnc hcb
  have HH0 := Lib.hid (And.intro hle0 h0F)
  clear hle0 h0F
  go_enter Tryd.func10, Tryd.ntmps10
  go_upto_region 1 with fail
  clear hw1
  go_cut [] (fun wc => St m wc B R T S A X g0 g1 kc v0 v2 v3 vm v L ∧ Blk wc F 30 #[.int .u32 0, .int .u32 (r : Int)] ∧ w.grownBy wc (some S))
  case first =>
    go_region_with (go_at_call 18; refine HF.out.mono ?_; rintro e w6 ⟨rfl, hs6, hg6⟩; have hb6 := HW.out.2.1.gb (gb_und hg6) (fun e => HW.out.2.2.2.1.2.2.1 (Option.some.inj e).symm); have z0 := hb6.cell 0; have z1 := hb6.cell 1; have y0 := hb6.free 0; have hl6 := hb6.lt; have z2 := (hb6.set 0 (.int .u32 0)).cell 1; have y2 := (hb6.set 0 (.int .u32 0)).free 1; have H6 := Lib.hid (And.intro (HW.out.1.follow hs6 (gb_und hg6)) (And.intro (gb_und hg6) hb6)); clear hs6 hg6 hb6)
    all_goals go_wp2_with fail
    all_goals go_meet
    all_goals
      have hg7 : w6.grownBy ((w6.setCell ⟨F, 0, none⟩ (.int .u32 0)).setCell ⟨F, 1, none⟩ (.int .u32 (r : Int))) (some F) := gb_set (gb_set (gb_refl _ _) _ _ _) _ _ _
      exact ⟨H6.out.1.box H6.out.2.2 (by decide) HH0.out.2 hg7, (H6.out.2.2.set 0 _).set 1 _, gb_past (gb_trans (gb_none HW.out.2.2.1) H6.out.2.1) hg7 (by omega)⟩
  case rest =>
    obtain ⟨ha2, hb2, hg2⟩ := hcut
    have r6 : wc.drew.cell? ⟨R, 6, none⟩ = some (.slice (some ⟨T, 0, none⟩) 1 1) := ha2.blk.cell 6
    have x0 : wc.drew.cell? ⟨F, 0, none⟩ = some (.int .u32 0) := hb2.cell 0
    have x1 : wc.drew.cell? ⟨F, 1, none⟩ = some (.int .u32 (r : Int)) := hb2.cell 1
    have HG := Lib.hid (get_any T S 1 1 m.n kc m.root m.rk r wc.drew ha2.sy.drew hrn)
    have HW2 := Lib.hid (And.intro ha2 (And.intro hb2 hg2))
    clear ha2 hb2 hg2
    go_upto_region 2 with fail
    go_region_held3 (fun w' => w'.cell? ⟨R, 6, none⟩ = some (.slice (some ⟨T, 0, none⟩) 1 1) ∧ w'.cell? ⟨F, 0, none⟩ = some (.int .u32 0) ∧ w'.cell? ⟨F, 1, none⟩ = some (.int .u32 (r : Int))) (first | (go_keep; done) | exact ⟨HA2.out.1.blk.cell 6, HA2.out.2.1.cell 0, HA2.out.2.1.cell 1⟩)
        (first | (go_at_call 19; refine HG.out.mono ?_; rintro e w2 ⟨rfl, hg2⟩; have HA2 := Lib.hid (And.intro (HW2.out.1.grow (gb_und hg2)) (And.intro (HW2.out.2.1.gb (gb_und hg2) (by simp)) (gb_trans HW2.out.2.2 (gb_none (gb_und hg2))))); clear hg2))
    clear r6 x0 x1 HG HW2
    have c8 := (HA2.out.1.sy.cell (j := r * 10 + 8) (by omega) (by omega)).trans HKR.out.1.2.2.2
    have c7 := (HA2.out.1.sy.cell (j := r * 10 + 7) (by omega) (by omega)).trans HKR.out.1.2.2.1
    have d0 := (HA2.out.1.sy.cell (j := r * 10) (by omega) (by omega)).trans HKR.out.1.1
    have c6 := (HA2.out.1.sy.cell (j := r * 10 + 6) (by omega) (by omega)).trans HKR.out.1.2.1
    have HN := Lib.hid (sns_any m HK.out.1 S r hrn w2 c8 c7)
    clear c8 c7
    obtain ⟨ns, hns⟩ : ∃ ns, m.ns r = ns := ⟨_, rfl⟩
    obtain ⟨s, hss⟩ : ∃ s, m.nx r = s := ⟨_, rfl⟩
    rw [hns] at HN
    rw [hss] at c6
    have HV := Lib.hid (And.intro hns hss)
    have hn3 := HKR.out.2.2.2.1
    rw [hns] at hn3
    have hs3 := HKR.out.2.1
    rw [hss] at hs3
    clear hns hss
    go_wp2_with fail
    go_loopg [10] 0 (fun q a wr => a = .pointer (some ⟨S, r * 10, none⟩) ∧ w2 = wr)
    case atStart => exact ⟨rfl, rfl⟩
    case round =>
    obtain ⟨rfl, rfl⟩ := hrel
    rcases hn3 with rfl | hn3
    · clear c6 hs3
      go_wp2_with (go_at_call 20; refine HN.out.mono ?_; rintro e w3 ⟨rfl, rfl⟩)
      refine bodyPost_ret (results_none rfl _ _ _) rfl ?_
      have hl : m.lst t = false := by unfold Pm.lst; rw [HK.out.2.2.1, HV.out.1]; rfl
      exact ⟨rfl, Kp.of HA2.out.2.2 (fun g e => .inl (.inl (Option.some.inj e).symm)), v, .inl rfl, HA2.out.1.skip (m.hit_not HK.out.2.2.1 (.inr (by rw [HV.out.1]; decide)) HK.out.1) (m.hit_not HK.out.2.2.1 (.inr (by rw [HV.out.1]; decide)) HK.out.1) hl⟩
    · rcases hs3 with rfl | hs3
      · rcases hn3 with rfl | rfl
        all_goals
          have HR : Hid (∀ (w6 : World) (g cap : Nat) (w9 : World), w2.grownBy w9 none → w9.grownBy w6 v.ownBlock → (v.ownBlock = some g ∨ w2.heap.size ≤ g) → w6.ownsRow B 91 4 (.slice (some ⟨g, 0, none⟩) ((m.es L).length + 1) cap) ((m.es L).length + 1) (m.fl L ++ [.int .u32 m.st, .int .u32 0, .int .u32 (r : Int), .int .u32 c]) →
              AcP m w B R T S A X g0 g1 kc v0 v2 v3 vm v L t (.returned (.tuple #[])) (w6.setCell ⟨A, 0, none⟩ (.slice (some ⟨g, 0, none⟩) ((m.es L).length + 1) cap))) := Lib.hid (by
            intro w6 g cap w9 h9 h6 hgv ho6
            have hl : m.lst t = true := by unfold Pm.lst; rw [HK.out.2.2.1, HV.out.1, HV.out.2]; rfl
            refine ⟨rfl, ?_, _, ?_, HA2.out.1.app h9 h6 ho6 (m.hit_not HK.out.2.2.1 (.inl HV.out.2) HK.out.1) (m.hit_not HK.out.2.2.1 (.inl HV.out.2) HK.out.1) hl rfl (by unfold Pm.row; rw [HK.out.2.2.1, HK.out.2.2.2])⟩
            · refine ((Kp.of (gb_trans HA2.out.2.2 (gb_none h9)) (fun g e => .inl (.inl (Option.some.inj e).symm))).then (Kp.of (L := LL S g0 g1 A v) h6 (fun g e => .inl (.inr (.inr (.inr (.inr e)))))) (fun _ _ h => h)).then (Kp.of (L := LL S g0 g1 A v) (gb_set (gb_refl _ (some A)) 0 none _) (fun g e => .inl (.inr (.inr (.inr (.inl (Option.some.inj e).symm)))))) (fun _ _ h => h)
            · rcases hgv with e | e
              · exact .inr (.inl (by rw [e]; rfl))
              · exact .inr (.inr ⟨g, rfl, Nat.le_trans HA2.out.2.2.size e⟩))
          obtain ⟨C, hC⟩ : ∃ C, w2.heap.size = C := ⟨_, rfl⟩
          go_upto_region 9 with (go_at_call 20; refine HN.out.mono ?_; rintro e w4 ⟨rfl, rfl⟩)
          obtain ⟨w3, hw3⟩ : ∃ w3, w4.alloc (.cells #[.int .u32 0] 61) = w3 := ⟨_, rfl⟩
          have hg3 : w4.grownBy w3 none := by rw [← hw3]; exact gb_alloc (gb_refl _ _) _
          have hb3 := Blk.new w4 61 #[.int .u32 0]
          rw [hC, hw3] at hb3
          rw [hw3]
          clear hw3 hC c6
          have b30 := hb3.cell 0
          have HA3 := Lib.hid (And.intro (HA2.out.1.grow hg3) (And.intro hg3 (HA2.out.2.1.gb hg3 (by simp))))
          clear hb3 hg3
          have HVV := Lib.hid (valid_any 0 w3)
          go_upto_region 14 with (go_at_call 21; refine HVV.out.mono ?_; rintro e w5 ⟨rfl, hg5⟩; have H5 := Lib.hid (And.intro (HA3.out.1.grow hg5) (And.intro (gb_trans HA3.out.2.1 hg5) (HA3.out.2.2.gb hg5 (by simp)))); clear hg5)
          clear b30
          have HVA : Hid (some A ≠ v.ownBlock) := Lib.hid (fun e => by
            obtain ⟨_, cur, hc⟩ := H5.out.1.row e.symm
            exact blk_ne hc H5.out.1.var (by decide) rfl)
          obtain ⟨i0, hi0, hz0, hz1, hz2⟩ := info_parts info51
          obtain ⟨st, hst⟩ : ∃ st, m.st = st := ⟨_, rfl⟩
          obtain ⟨k, hkl⟩ : ∃ k, (m.es L).length = k := ⟨_, rfl⟩
          obtain ⟨xs, hxs⟩ : ∃ xs, m.fl L = xs := ⟨_, rfl⟩
          have hown := H5.out.1.own
          have hxx := H5.out.1.x
          rw [hkl, hxs] at hown
          rw [hst] at hxx
          rw [hkl] at hkk
          rw [hst, hkl, hxs] at HR
          clear hst hkl hxs
          have HOW := Lib.hid ((World.ownsRow.alloc hown (.cells #[.int .u32 st, .int .u32 0, .int .u32 (r : Int), .int .u32 c] 91)) : (w5.alloc (.cells #[.int .u32 st, .int .u32 0, .int .u32 (r : Int), .int .u32 c] 91)).drew.ownsRow B 91 4 v k xs)
          have HNW := Lib.hid (World.news_of_block (w := (w5.alloc (.cells #[.int .u32 st, .int .u32 0, .int .u32 (r : Int), .int .u32 c] 91)).drew) (B := w5.heap.size) (heap_alloc_new w5 (.cells #[.int .u32 st, .int .u32 0, .int .u32 (r : Int), .int .u32 c] 91)))
          have HS2 := Lib.hid (H5.out.1.var.alloc (.cells #[.int .u32 st, .int .u32 0, .int .u32 (r : Int), .int .u32 c] 91)).drew
          have hBz : B ≤ w5.heap.size := Nat.le_trans hB (Nat.le_trans HA2.out.2.2.size H5.out.2.1.size)
          have a1 : w5.drew.cell? ⟨A, 0, none⟩ = some v := H5.out.1.var.cell 0
          have xx : w5.drew.cell? ⟨X, 0, none⟩ = some (.int .u32 st) := hxx.cell 0
          have y0 : w5.drew.cell? ⟨F, 0, none⟩ = some (.int .u32 0) := H5.out.2.2.cell 0
          have y1 : w5.drew.cell? ⟨F, 1, none⟩ = some (.int .u32 (r : Int)) := H5.out.2.2.cell 1
          have a2 : (w5.alloc (.cells #[.int .u32 st, .int .u32 0, .int .u32 (r : Int), .int .u32 c] 91)).drew.cell? ⟨A, 0, none⟩ = some v := HS2.out.cell 0
          clear hown hxx
          go_region_law (refine step_append_lies _ (by rfl) (.tmp 85) (.tmp 94) 43 (by rfl) B 91 i0 _ 4 16 Tryd.underlying43 hi0 hz0 hz1 hz2 rfl (by omega) v k xs (by rfl) HOW.out ⟨w5.heap.size, 0, none⟩ 1 1 [.int .u32 st, .int .u32 0, .int .u32 (r : Int), .int .u32 c] (by rfl) rfl HNW.out (by simp [Value.oneCell']) (by omega) (by unfold maxLen; omega) (by omega) (by simp; omega) (w5.heap.size + 1) (by simp) ?_; intro g cap w6 ho6 hg6 hat6 hlt6; have hA6 := HS2.out.gb hg6 HVA.out; have a6 := hA6.cell 0; have f6 := hA6.free 0; have H6 := Lib.hid (And.intro ho6 (And.intro hg6 hat6)); clear hA6 ho6 hg6 hat6 hlt6)
          all_goals
            go_wp2_with fail
            refine bodyPost_ret (results_none rfl _ _ _) rfl ?_
            exact HR.out w6 g cap _ (gb_trans H5.out.2.1 (gb_drew (gb_alloc (gb_refl _ _) _))) H6.out.2.1 (by
              rcases H6.out.2.2 with e | e
              · exact .inl e
              · exact .inr (by have := H5.out.2.1.size; omega)) H6.out.1
      · obtain ⟨i, hidx, rfl⟩ := hs3
        have hbnd := HKR.out.2.2.2.2.2
        have hvt : ((4294967295 - (i : Int)) == 0) = false := by simp; omega
        have hgets := HKR.out.2.2.1
        rcases hn3 with rfl | rfl
        · have hne4 : decide (((0 : Nat) : Int) = 4) = false := by decide
          have hit : m.hit 0 i t = true := by unfold Pm.hit; rw [HK.out.2.2.1, HV.out.1, HV.out.2]; simp
          have hl : m.lst t = false := by unfold Pm.lst; rw [HK.out.2.2.1, HV.out.2]; simp; intro _; omega
          have hoth := m.hit_not (a := 1) HK.out.2.2.1 (.inr (by rw [HV.out.1]; decide)) HK.out.1
          have hcap : m.cap 0 i t = (m.fg r / 2 == 1) := by unfold Pm.cap; rw [hit, HK.out.2.2.1]; rfl
          have HL := Lib.hid (And.intro hit (And.intro hl (And.intro hoth hcap)))
          clear hit hl hoth hcap
          obtain ⟨C, hC⟩ : ∃ C, w2.heap.size = C := ⟨_, rfl⟩
          go_upto_region 9 with (go_at_call 20; refine HN.out.mono ?_; rintro e w4 ⟨rfl, rfl⟩)
          obtain ⟨w3, hw3⟩ : ∃ w3, w4.alloc (.cells #[.int .u32 (4294967295 - (i : Int))] 61) = w3 := ⟨_, rfl⟩
          have hg3 : w4.grownBy w3 none := by rw [← hw3]; exact gb_alloc (gb_refl _ _) _
          have hb3 := Blk.new w4 61 #[.int .u32 (4294967295 - (i : Int))]
          rw [hC, hw3] at hb3
          rw [hw3]
          clear hw3 hC
          have b30 := hb3.cell 0
          have HA3 := Lib.hid (And.intro (HA2.out.1.grow hg3) (And.intro hg3 hb3))
          clear hb3 hg3
          have HVV := Lib.hid (valid_any (4294967295 - (i : Int)) w3)
          rw [hvt] at HVV
          go_upto_region 10 with (go_at_call 21; refine HVV.out.mono ?_; rintro e w5 ⟨rfl, hg5⟩; have H5 := Lib.hid (And.intro (HA3.out.1.grow hg5) (And.intro (gb_trans HA3.out.2.1 hg5) (HA3.out.2.2.gb hg5 (by simp)))); clear hg5)
          clear b30 c6
          have rr : w5.drew.cell? ⟨R, 1, none⟩ = some (.slice (some ⟨g0, 0, none⟩) nc nc) := by have h := H5.out.1.blk.cell 1; rw [HKR.out.2.2.2.2.1] at h; exact h
          have xx : w5.drew.cell? ⟨C, 0, none⟩ = some (.int .u32 (4294967295 - (i : Int))) := H5.out.2.2.cell 0
          have HGI := Lib.hid (fun (w : World) => geti_any (i : Int) (by omega) (by omega) w)
          go_region_held3 (fun w' => w'.cell? ⟨R, 1, none⟩ = some (.slice (some ⟨g0, 0, none⟩) nc nc) ∧ w'.cell? ⟨C, 0, none⟩ = some (.int .u32 (4294967295 - (i : Int)))) (first | (go_keep; done) | exact HS.out)
              (first | (go_at_call 22; refine (HGI.out _).mono ?_; rintro e wg ⟨rfl, hgg⟩; have HE := Lib.hid (And.intro (H5.out.1.grow (gb_und hgg)) (gb_trans H5.out.2.1 (gb_und hgg))); have HS : Hid (wg.cell? ⟨R, 1, none⟩ = some (.slice (some ⟨g0, 0, none⟩) nc nc) ∧ wg.cell? ⟨C, 0, none⟩ = some (.int .u32 (4294967295 - (i : Int)))) := Lib.hid ⟨by have h := HE.out.1.blk.cell 1; rw [HKR.out.2.2.2.2.1] at h; exact h, (H5.out.2.2.gb (gb_und hgg) (by simp)).cell 0⟩; clear hgg))
          clear rr xx HGI
          have hcell := HE.out.1.s0.cell (j := i) (by rw [HKR.out.2.2.2.2.1]; exact hidx)
          have hsum : (m.cF 0 i L + c) % 4294967296 = m.cF 0 i (L ++ [t]) := by rw [m.cF_hit HL.out.1, HK.out.2.2.2]
          have hadd := addu ⟨g0, i * 3 + 1, none⟩ (m.cF 0 i L) c wg hcell.1 (HE.out.1.s0.free _)
          rw [hsum] at hadd
          have hgs : wg.grownBy (wg.setCell ⟨g0, i * 3 + 1, none⟩ (.int .u32 (m.cF 0 i (L ++ [t])))) (some g0) := gb_set (gb_refl _ _) _ _ _
          have nR : ∀ {x y : Nat}, x ≠ y → some x ≠ some y := fun h e => h (Option.some.inj e)
          have hap := HE.out.1.apart (g := g0) (.inl rfl)
          have hsy := HE.out.1.sy.gb hgs (nR hap.2.1) (nR hap.2.2.1)
          have c7 := (hsy.cell (j := r * 10 + 7) (by omega) (by omega)).trans HKR.out.1.2.2.1
          obtain ⟨f, hf⟩ : ∃ f, m.fg r = f := ⟨_, rfl⟩
          rw [hf] at c7 hgets
          have hmm : (wg.setCell ⟨g0, i * 3 + 1, none⟩ (.int .u32 (m.cF 0 i (L ++ [t])))).cell? ⟨g0, i * 3 + 2, none⟩ = some (.int .u32 (m.fF 0 i L)) := by
            obtain ⟨cur, z1, z2, z3, z4⟩ := HE.out.1.s0
            rw [(z2.set _ _).cell, Array.getElem?_setIfInBounds_ne (by omega)]
            exact (z4 i (by rw [HKR.out.2.2.2.2.1]; exact hidx)).2.2
          have hmf : (wg.setCell ⟨g0, i * 3 + 1, none⟩ (.int .u32 (m.cF 0 i (L ++ [t])))).frozen? ⟨g0, i * 3 + 2, none⟩ = false := by
            obtain ⟨cur, z1, z2, z3, z4⟩ := HE.out.1.s0
            exact (z2.set _ _).free _
          have hsto := stou ⟨g0, i * 3 + 2, none⟩ 1 _ _ hmm hmf
          obtain ⟨ws, hws⟩ : ∃ ws, wg.setCell ⟨g0, i * 3 + 1, none⟩ (.int .u32 (m.cF 0 i (L ++ [t]))) = ws := ⟨_, rfl⟩
          have HEND : Hid ((∀ wz, wz = ws → f / 2 = 0 → AcP m w B R T S A X g0 g1 kc v0 v2 v3 vm v L t (.returned (.tuple #[])) wz) ∧ (f / 2 = 1 → AcP m w B R T S A X g0 g1 kc v0 v2 v3 vm v L t (.returned (.tuple #[])) (ws.setCell ⟨g0, i * 3 + 2, none⟩ (.int .u32 1)))) := Lib.hid (by
            have hle0 := Kp.of (L := LL S g0 g1 A v) (gb_trans HA2.out.2.2 (gb_none HE.out.2)) (fun g e => .inl (.inl (Option.some.inj e).symm))
            rw [← hws]
            constructor
            · rintro wz rfl hf0
              have hcp : m.cap 0 i t = false := by rw [HL.out.2.2.2, hf, hf0]; rfl
              have q := HE.out.1.s0.count HL.out.1 hcp
              have q' := (HE.out.1.s1.gb hgs (nR (Ne.symm HE.out.1.ne))).skip HL.out.2.2.1
              exact ⟨rfl, hle0.then (Kp.of (L := LL S g0 g1 A v) hgs (fun g e => .inl (.inr (.inl (Option.some.inj e).symm)))) (fun _ _ h => h), v, .inl rfl, HE.out.1.slots (.inl rfl) hgs q q' HL.out.2.1⟩
            · intro hf1
              have hcp : m.cap 0 i t = true := by rw [HL.out.2.2.2, hf, hf1]; rfl
              have q := HE.out.1.s0.mark HL.out.1 hcp
              have hg2 : wg.grownBy ((wg.setCell ⟨g0, i * 3 + 1, none⟩ (.int .u32 (m.cF 0 i (L ++ [t])))).setCell ⟨g0, i * 3 + 2, none⟩ (.int .u32 1)) (some g0) := gb_set hgs _ _ _
              have q' := (HE.out.1.s1.gb hg2 (nR (Ne.symm HE.out.1.ne))).skip HL.out.2.2.1
              exact ⟨rfl, hle0.then (Kp.of (L := LL S g0 g1 A v) hg2 (fun g e => .inl (.inr (.inl (Option.some.inj e).symm)))) (fun _ _ h => h), v, .inl rfl, HE.out.1.slots (.inl rfl) hg2 q q' HL.out.2.1⟩)
          rw [hws] at hadd c7 hsto
          have HHS := Lib.hid (fun (w : World) => has_any f 2 hgets (.inr rfl) w)
          clear hmm hmf hgs hap hsy hcell hsum nR hws hf
          rcases (show f / 2 = 0 ∨ f / 2 = 1 by omega) with hf2 | hf2
          · have e : (f / 2 % 2 == 1) = false := by rw [hf2]; rfl
            rw [e] at HHS
            have HF2 := Lib.hid hf2
            clear e hf2 hgets hsto
            go_wp2_with (first | (go_at_call 24; refine (HHS.out _).mono ?_; rintro e w8 ⟨rfl, he8⟩; have HE8 := Lib.hid he8; clear he8))
            refine bodyPost_ret (results_none rfl _ _ _) rfl ?_
            exact HEND.out.1 _ HE8.out HF2.out
          · have e : (f / 2 % 2 == 1) = true := by rw [hf2]; rfl
            rw [e] at HHS
            have HF2 := Lib.hid hf2
            clear e hf2 hgets
            go_wp2_with (first | (go_at_call 24; refine (HHS.out _).mono ?_; rintro e w8 ⟨rfl, he8⟩; subst he8))
            refine bodyPost_ret (results_none rfl _ _ _) rfl ?_
            exact HEND.out.2 HF2.out
        · have hne4 : decide (((1 : Nat) : Int) = 4) = false := by decide
          have hit : m.hit 1 i t = true := by unfold Pm.hit; rw [HK.out.2.2.1, HV.out.1, HV.out.2]; simp
          have hl : m.lst t = false := by unfold Pm.lst; rw [HK.out.2.2.1, HV.out.2]; simp; intro _; omega
          have hoth := m.hit_not (a := 0) HK.out.2.2.1 (.inr (by rw [HV.out.1]; decide)) HK.out.1
          have hcap : m.cap 1 i t = (m.fg r / 2 == 1) := by unfold Pm.cap; rw [hit, HK.out.2.2.1]; rfl
          have HL := Lib.hid (And.intro hit (And.intro hl (And.intro hoth hcap)))
          clear hit hl hoth hcap
          obtain ⟨C, hC⟩ : ∃ C, w2.heap.size = C := ⟨_, rfl⟩
          go_upto_region 9 with (go_at_call 20; refine HN.out.mono ?_; rintro e w4 ⟨rfl, rfl⟩)
          obtain ⟨w3, hw3⟩ : ∃ w3, w4.alloc (.cells #[.int .u32 (4294967295 - (i : Int))] 61) = w3 := ⟨_, rfl⟩
          have hg3 : w4.grownBy w3 none := by rw [← hw3]; exact gb_alloc (gb_refl _ _) _
          have hb3 := Blk.new w4 61 #[.int .u32 (4294967295 - (i : Int))]
          rw [hC, hw3] at hb3
          rw [hw3]
          clear hw3 hC
          have b30 := hb3.cell 0
          have HA3 := Lib.hid (And.intro (HA2.out.1.grow hg3) (And.intro hg3 hb3))
          clear hb3 hg3
          have HVV := Lib.hid (valid_any (4294967295 - (i : Int)) w3)
          rw [hvt] at HVV
          go_upto_region 10 with (go_at_call 21; refine HVV.out.mono ?_; rintro e w5 ⟨rfl, hg5⟩; have H5 := Lib.hid (And.intro (HA3.out.1.grow hg5) (And.intro (gb_trans HA3.out.2.1 hg5) (HA3.out.2.2.gb hg5 (by simp)))); clear hg5)
          clear b30 c6
          have rr : w5.drew.cell? ⟨R, 2, none⟩ = some (.slice (some ⟨g1, 0, none⟩) nc nc) := by have h := H5.out.1.blk.cell 2; rw [HKR.out.2.2.2.2.1] at h; exact h
          have xx : w5.drew.cell? ⟨C, 0, none⟩ = some (.int .u32 (4294967295 - (i : Int))) := H5.out.2.2.cell 0
          have HGI := Lib.hid (fun (w : World) => geti_any (i : Int) (by omega) (by omega) w)
          go_region_held3 (fun w' => w'.cell? ⟨R, 2, none⟩ = some (.slice (some ⟨g1, 0, none⟩) nc nc) ∧ w'.cell? ⟨C, 0, none⟩ = some (.int .u32 (4294967295 - (i : Int)))) (first | (go_keep; done) | exact HS.out)
              (first | (go_at_call 22; refine (HGI.out _).mono ?_; rintro e wg ⟨rfl, hgg⟩; have HE := Lib.hid (And.intro (H5.out.1.grow (gb_und hgg)) (gb_trans H5.out.2.1 (gb_und hgg))); have HS : Hid (wg.cell? ⟨R, 2, none⟩ = some (.slice (some ⟨g1, 0, none⟩) nc nc) ∧ wg.cell? ⟨C, 0, none⟩ = some (.int .u32 (4294967295 - (i : Int)))) := Lib.hid ⟨by have h := HE.out.1.blk.cell 2; rw [HKR.out.2.2.2.2.1] at h; exact h, (H5.out.2.2.gb (gb_und hgg) (by simp)).cell 0⟩; clear hgg))
          clear rr xx HGI
          have hcell := HE.out.1.s1.cell (j := i) (by rw [HKR.out.2.2.2.2.1]; exact hidx)
          have hsum : (m.cF 1 i L + c) % 4294967296 = m.cF 1 i (L ++ [t]) := by rw [m.cF_hit HL.out.1, HK.out.2.2.2]
          have hadd := addu ⟨g1, i * 3 + 1, none⟩ (m.cF 1 i L) c wg hcell.1 (HE.out.1.s1.free _)
          rw [hsum] at hadd
          have hgs : wg.grownBy (wg.setCell ⟨g1, i * 3 + 1, none⟩ (.int .u32 (m.cF 1 i (L ++ [t])))) (some g1) := gb_set (gb_refl _ _) _ _ _
          have nR : ∀ {x y : Nat}, x ≠ y → some x ≠ some y := fun h e => h (Option.some.inj e)
          have hap := HE.out.1.apart (g := g1) (.inr rfl)
          have hsy := HE.out.1.sy.gb hgs (nR hap.2.1) (nR hap.2.2.1)
          have c7 := (hsy.cell (j := r * 10 + 7) (by omega) (by omega)).trans HKR.out.1.2.2.1
          obtain ⟨f, hf⟩ : ∃ f, m.fg r = f := ⟨_, rfl⟩
          rw [hf] at c7 hgets
          have hmm : (wg.setCell ⟨g1, i * 3 + 1, none⟩ (.int .u32 (m.cF 1 i (L ++ [t])))).cell? ⟨g1, i * 3 + 2, none⟩ = some (.int .u32 (m.fF 1 i L)) := by
            obtain ⟨cur, z1, z2, z3, z4⟩ := HE.out.1.s1
            rw [(z2.set _ _).cell, Array.getElem?_setIfInBounds_ne (by omega)]
            exact (z4 i (by rw [HKR.out.2.2.2.2.1]; exact hidx)).2.2
          have hmf : (wg.setCell ⟨g1, i * 3 + 1, none⟩ (.int .u32 (m.cF 1 i (L ++ [t])))).frozen? ⟨g1, i * 3 + 2, none⟩ = false := by
            obtain ⟨cur, z1, z2, z3, z4⟩ := HE.out.1.s1
            exact (z2.set _ _).free _
          have hsto := stou ⟨g1, i * 3 + 2, none⟩ 1 _ _ hmm hmf
          obtain ⟨ws, hws⟩ : ∃ ws, wg.setCell ⟨g1, i * 3 + 1, none⟩ (.int .u32 (m.cF 1 i (L ++ [t]))) = ws := ⟨_, rfl⟩
          have HEND : Hid ((∀ wz, wz = ws → f / 2 = 0 → AcP m w B R T S A X g0 g1 kc v0 v2 v3 vm v L t (.returned (.tuple #[])) wz) ∧ (f / 2 = 1 → AcP m w B R T S A X g0 g1 kc v0 v2 v3 vm v L t (.returned (.tuple #[])) (ws.setCell ⟨g1, i * 3 + 2, none⟩ (.int .u32 1)))) := Lib.hid (by
            have hle0 := Kp.of (L := LL S g0 g1 A v) (gb_trans HA2.out.2.2 (gb_none HE.out.2)) (fun g e => .inl (.inl (Option.some.inj e).symm))
            rw [← hws]
            constructor
            · rintro wz rfl hf0
              have hcp : m.cap 1 i t = false := by rw [HL.out.2.2.2, hf, hf0]; rfl
              have q := HE.out.1.s1.count HL.out.1 hcp
              have q' := (HE.out.1.s0.gb hgs (nR HE.out.1.ne)).skip HL.out.2.2.1
              exact ⟨rfl, hle0.then (Kp.of (L := LL S g0 g1 A v) hgs (fun g e => .inl (.inr (.inr (.inl (Option.some.inj e).symm))))) (fun _ _ h => h), v, .inl rfl, HE.out.1.slots (.inr rfl) hgs q' q HL.out.2.1⟩
            · intro hf1
              have hcp : m.cap 1 i t = true := by rw [HL.out.2.2.2, hf, hf1]; rfl
              have q := HE.out.1.s1.mark HL.out.1 hcp
              have hg2 : wg.grownBy ((wg.setCell ⟨g1, i * 3 + 1, none⟩ (.int .u32 (m.cF 1 i (L ++ [t])))).setCell ⟨g1, i * 3 + 2, none⟩ (.int .u32 1)) (some g1) := gb_set hgs _ _ _
              have q' := (HE.out.1.s0.gb hg2 (nR HE.out.1.ne)).skip HL.out.2.2.1
              exact ⟨rfl, hle0.then (Kp.of (L := LL S g0 g1 A v) hg2 (fun g e => .inl (.inr (.inr (.inl (Option.some.inj e).symm))))) (fun _ _ h => h), v, .inl rfl, HE.out.1.slots (.inr rfl) hg2 q' q HL.out.2.1⟩)
          rw [hws] at hadd c7 hsto
          have HHS := Lib.hid (fun (w : World) => has_any f 2 hgets (.inr rfl) w)
          clear hmm hmf hgs hap hsy hcell hsum nR hws hf
          rcases (show f / 2 = 0 ∨ f / 2 = 1 by omega) with hf2 | hf2
          · have e : (f / 2 % 2 == 1) = false := by rw [hf2]; rfl
            rw [e] at HHS
            have HF2 := Lib.hid hf2
            clear e hf2 hgets hsto
            go_wp2_with (first | (go_at_call 24; refine (HHS.out _).mono ?_; rintro e w8 ⟨rfl, he8⟩; have HE8 := Lib.hid he8; clear he8))
            refine bodyPost_ret (results_none rfl _ _ _) rfl ?_
            exact HEND.out.1 _ HE8.out HF2.out
          · have e : (f / 2 % 2 == 1) = true := by rw [hf2]; rfl
            rw [e] at HHS
            have HF2 := Lib.hid hf2
            clear e hf2 hgets
            go_wp2_with (first | (go_at_call 24; refine (HHS.out _).mono ?_; rintro e w8 ⟨rfl, he8⟩; subst he8))
            refine bodyPost_ret (results_none rfl _ _ _) rfl ?_
            exact HEND.out.2 HF2.out
end Go.Proofs.YtmpfgkiljfoicaaDoor
