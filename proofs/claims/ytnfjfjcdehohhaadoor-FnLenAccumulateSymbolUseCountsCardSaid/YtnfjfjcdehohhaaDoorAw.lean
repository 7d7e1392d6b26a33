/-
  AccumulateSymbolCount, walked. No statement of the seat is proved here.
-/
import Derived.Test.YtnfjfjcdehohhaaDoorAc
import Derived.Laws.LoneSync
namespace Go.Proofs.YtnfjfjcdehohhaaDoor
open Go.RowKit
set_option linter.unusedVariables false
set_option linter.unusedSimpArgs false

theorem info51 : (Tryd.prog.info? 51).map (fun i => (i.zero, i.size, i.bytes)) = some (some (.agg #[.int .u32 0, .int .u32 0, .int .u32 0, .int .u32 0]), 4, 16) := by kernel_rfl
theorem addu (a : Addr) (x y : Int) (w : World) (hc : w.cell? a = some (.int .u32 x)) (hz : w.frozen? a = false) :
    (callFunc 28 #[.pointer (some a), .int .u32 y]).run Tryd.prog w = .ok (.value (.int .u32 ((x + y) % 4294967296))) (w.setCell a (.int .u32 ((x + y) % 4294967296))) :=
  run_call_add (P := Tryd.prog) Tryd.func28 (by kernel_rfl) (by kernel_rfl) (by kernel_rfl) .u32 (by kernel_rfl) (y := y) (s := (x + y) % 4294967296) hc hz (by simp [go_sem, IntKind.wrap_u32])
set_option maxHeartbeats 4000000 in
set_option maxRecDepth 100000 in
theorem ac_any (B R T S A X n g0 g1 c0 c1 : Nat) (kc : Array Value) (ks ns : List Int) (v2 v3 vm : Value) (st c : Int) (v : Value) (k : Nat) (xs : List Value) (hn : n ≤ 65536) (hkk : k ≤ 65536)
    (hkc : Kc kc n ks ns) (hns : ∀ i, i < n → 0 ≤ nth ns i ∧ nth ns i < 4294967296) (hk8 : ∀ i, i < n → 0 ≤ nth ks i ∧ nth ks i < 256) (hno : NestOk ks ns c0 c1 n) (hle : c0 ≤ 200000 ∧ c1 ≤ 200000)
    (t : Nat) (htn : t < n) (w : World) (hB : B ≤ w.heap.size) (h : St w B R T S A X n g0 g1 c0 c1 kc v2 v3 vm st v k xs) :
    Calls Tryd.prog 20 #[.pointer (some ⟨R, 0, none⟩), .pointer (some ⟨A, 0, none⟩), .agg #[.int .u32 0, .int .u32 (t : Int)], .int .u32 c, .slice (some ⟨X, 0, none⟩) 1 1] w (AcP w B R T S A X n g0 g1 c0 c1 kc v2 v3 vm st v k xs (lst ks ns t) t c) := by
  obtain ⟨w1, hw1⟩ : ∃ w1, w.alloc (.cells #[.int .u32 0, .int .u32 (t : Int)] 42) = w1 := ⟨_, rfl⟩
  have g1' : w.grownBy w1 none := by rw [← hw1]; exact gb_alloc (gb_refl _ _) _
  have hb1 : Blk w1 w.heap.size 42 #[.int .u32 0, .int .u32 (t : Int)] := by rw [← hw1]; exact Blk.new _ _ _
  obtain ⟨F, hF⟩ : ∃ F, w.heap.size = F := ⟨_, rfl⟩
  rw [hF] at hb1
  have ha1 := h.grow g1'
  have h0F : 0 ≠ F := by have := h.le; omega
  have hTS : S ≠ T := by
    obtain ⟨ts, cs, q1, q2, q3, q4, q5, q6⟩ := h.sy.out
    exact blk_ne q5 q1 (by decide)
  have hSA := (ha1.far hb1 (by decide) h0F)
  have hle0 := h.le
  have HF := Lib.hid (fol_any T S 1 1 n kc id (fun _ => 0) hTS (by omega) (by omega) (fun j hj => ⟨hj, Nat.le_refl _, rfl⟩) 1 t w1.drew (by omega) htn ha1.sy.drew ha1.iv.drew)
  have r6 : w1.drew.cell? ⟨R, 6, none⟩ = some (.slice (some ⟨T, 0, none⟩) 1 1) := ha1.blk.cell 6
  have x0 : w1.drew.cell? ⟨F, 0, none⟩ = some (.int .u32 0) := hb1.cell 0
  have x1 : w1.drew.cell? ⟨F, 1, none⟩ = some (.int .u32 (t : Int)) := hb1.cell 1
  have hla := hb1.lt
  have hlr := ha1.blk.lt
  have HW := Lib.hid (And.intro ha1 (And.intro hb1 (And.intro g1' (And.intro hSA h0F))))
  have HROW := Lib.hid (fun g (hg : v.ownBlock = some g) => h.row hg)
  clear ha1 hb1 g1' hSA h
  have HK := Lib.hid (And.intro hkc (And.intro hns (And.intro hno (And.intro hk8 hle))))
  clear hkc hns hno hk8
  have HH0 := Lib.hid (And.intro hle0 h0F)
  clear hle0 h0F
  go_enter Tryd.func20, Tryd.ntmps20
  go_upto_region 1 with fail
  clear hw1
  go_cut [] (fun wc => St wc B R T S A X n g0 g1 c0 c1 kc v2 v3 vm st v k xs ∧ Blk wc F 42 #[.int .u32 0, .int .u32 (t : Int)] ∧ w.grownBy wc (some S))
  case first =>
    go_region_with (go_at_call 23; refine HF.out.mono ?_; rintro e w6 ⟨rfl, hs6, hg6⟩; have hb6 := HW.out.2.1.gb (gb_und hg6) (fun e => HW.out.2.2.2.1.2.2.1 (Option.some.inj e).symm); have z0 := hb6.cell 0; have z1 := hb6.cell 1; have y0 := hb6.free 0; have hl6 := hb6.lt; have z2 := (hb6.set 0 (.int .u32 0)).cell 1; have y2 := (hb6.set 0 (.int .u32 0)).free 1; have H6 := Lib.hid (And.intro (HW.out.1.follow hs6 (gb_und hg6)) (And.intro (gb_und hg6) hb6)); clear hs6 hg6 hb6)
    all_goals go_wp2_with fail
    all_goals go_meet
    all_goals
      have hg7 : w6.grownBy ((w6.setCell ⟨F, 0, none⟩ (.int .u32 0)).setCell ⟨F, 1, none⟩ (.int .u32 (t : Int))) (some F) := gb_set (gb_set (gb_refl _ _) _ _ _) _ _ _
      exact ⟨H6.out.1.box H6.out.2.2 (by decide) HH0.out.2 hg7, (H6.out.2.2.set 0 _).set 1 _, gb_past (gb_trans (gb_none HW.out.2.2.1) H6.out.2.1) hg7 (by omega)⟩
  case rest =>
    obtain ⟨ha2, hb2, hg2⟩ := hcut
    have r6 : wc.drew.cell? ⟨R, 6, none⟩ = some (.slice (some ⟨T, 0, none⟩) 1 1) := ha2.blk.cell 6
    have x0 : wc.drew.cell? ⟨F, 0, none⟩ = some (.int .u32 0) := hb2.cell 0
    have x1 : wc.drew.cell? ⟨F, 1, none⟩ = some (.int .u32 (t : Int)) := hb2.cell 1
    have HG := Lib.hid (get_any T S 1 1 n kc id (fun _ => 0) t wc.drew ha2.sy.drew htn)
    have HW2 := Lib.hid (And.intro ha2 (And.intro hb2 hg2))
    clear ha2 hb2 hg2
    go_upto_region 2 with fail
    go_region_held3 (fun w' => w'.cell? ⟨R, 6, none⟩ = some (.slice (some ⟨T, 0, none⟩) 1 1) ∧ w'.cell? ⟨F, 0, none⟩ = some (.int .u32 0) ∧ w'.cell? ⟨F, 1, none⟩ = some (.int .u32 (t : Int))) (first | (go_keep; done) | exact ⟨HA2.out.1.blk.cell 6, HA2.out.2.1.cell 0, HA2.out.2.1.cell 1⟩)
        (first | (go_at_call 24; refine HG.out.mono ?_; rintro e w2 ⟨rfl, hg2⟩; have HA2 := Lib.hid (And.intro (HW2.out.1.grow (gb_und hg2)) (And.intro (HW2.out.2.1.gb (gb_und hg2) (by simp)) (gb_trans HW2.out.2.2 (gb_none (gb_und hg2))))); clear hg2))
    clear r6 x0 x1 HG HW2
    obtain ⟨kk, hkk⟩ : ∃ kk, nth ks t = kk := ⟨_, rfl⟩
    obtain ⟨s, hss⟩ : ∃ s, nth ns t = s := ⟨_, rfl⟩
    have hkc := HK.out.1 t htn
    have hsr := HK.out.2.1 t htn
    rw [hkk, hss] at hkc
    rw [hss] at hsr
    have HV := Lib.hid (And.intro hkk (And.intro hss hkc))
    clear hkk hss hkc
    have c8 := (HA2.out.1.sy.cell (j := t * 10 + 8) (by omega) (by omega)).trans HV.out.2.2.2.2.2
    have c7 := (HA2.out.1.sy.cell (j := t * 10 + 7) (by omega) (by omega)).trans HV.out.2.2.2.2.1
    have d0 := (HA2.out.1.sy.cell (j := t * 10) (by omega) (by omega)).trans HV.out.2.2.1
    have c6 := (HA2.out.1.sy.cell (j := t * 10 + 6) (by omega) (by omega)).trans HV.out.2.2.2.1
    have HN := Lib.hid (sns_any S (t * 10) kk w2 c8 c7)
    clear c8
    go_wp2_with fail
    go_loopg [10] 0 (fun q a wr => a = .pointer (some ⟨S, t * 10, none⟩) ∧ w2 = wr)
    case atStart => exact ⟨rfl, rfl⟩
    case round =>
    obtain ⟨rfl, rfl⟩ := hrel
    by_cases hpin : kk % 3 = 0
    · have e1 : slotNs kk = 4 := if_pos hpin
      rw [e1] at HN
      have HP := Lib.hid hpin
      clear hpin e1 c7 c6
      have hl : lst ks ns t = false := by
        unfold lst
        rw [HV.out.1]
        simp [HP.out]
      go_wp2_with (go_at_call 25; refine HN.out.mono ?_; rintro e w3 ⟨rfl, rfl⟩)
      refine bodyPost_ret (results_none rfl _ _ _) rfl ?_
      exact ⟨rfl, Kp.of HA2.out.2.2 (fun g e => .inl (.inl (Option.some.inj e).symm)), v, .inl rfl, by rw [hl]; exact HA2.out.1⟩
    · have hns' : (slotNs kk = 0 ∧ ¬ kk % 3 = 2) ∨ (slotNs kk = 1 ∧ kk % 3 = 2) := by
        unfold slotNs nsOf
        by_cases e : kk % 3 = 2
        · right; rw [if_neg hpin, if_pos e]; exact ⟨rfl, e⟩
        · left; rw [if_neg hpin, if_neg e]; exact ⟨rfl, e⟩
      rcases hns' with ⟨hns, hkind⟩ | ⟨hns, hkind⟩
      · rw [hns] at HN
        have HP := Lib.hid hpin
        have HKD := Lib.hid hkind
        clear hpin hns hkind
        by_cases hs0 : s = 0
        · have hs0' := hs0
          subst hs0'
          have c6' : w2.cell? ⟨S, t * 10 + 6, none⟩ = some (.int .u32 0) := by rw [c6, if_pos rfl]
          have hl : lst ks ns t = true := by
            unfold lst
            rw [HV.out.1, HV.out.2.1]
            simp [HP.out]
          have HR : Hid (∀ (w6 : World) (g cap : Nat) (w9 : World), w2.grownBy w9 none → w9.ownsRow B 51 4 v k xs → w9.grownBy w6 v.ownBlock → (v.ownBlock = some g ∨ w2.heap.size ≤ g) → w6.ownsRow B 51 4 (.slice (some ⟨g, 0, none⟩) (k + 1) cap) (k + 1) (xs ++ [.int .u32 st, .int .u32 0, .int .u32 (t : Int), .int .u32 c]) →
              AcP w B R T S A X n g0 g1 c0 c1 kc v2 v3 vm st v k xs (lst ks ns t) t c (.returned (.tuple #[])) (w6.setCell ⟨A, 0, none⟩ (.slice (some ⟨g, 0, none⟩) (k + 1) cap))) := Lib.hid (by
            intro w6 g cap w9 h9 _ h6 hgv ho6
            rw [hl]
            refine ⟨rfl, ?_, _, ?_, HA2.out.1.app h9 h6 ho6⟩
            · refine ((Kp.of (gb_trans HA2.out.2.2 (gb_none h9)) (fun g e => .inl (.inl (Option.some.inj e).symm))).then (Kp.of (L := LL S g0 g1 A v) h6 (fun g e => .inl (.inr (.inr (.inr (.inr e)))))) (fun _ _ h => h)).then (Kp.of (L := LL S g0 g1 A v) (gb_set (gb_refl _ (some A)) 0 none _) (fun g e => .inl (.inr (.inr (.inr (.inl (Option.some.inj e).symm)))))) (fun _ _ h => h)
            · rcases hgv with e | e
              · exact .inr (.inl (by rw [e]; rfl))
              · exact .inr (.inr ⟨g, rfl, Nat.le_trans HA2.out.2.2.size e⟩))
          clear c6 hl
          obtain ⟨C, hC⟩ : ∃ C, w2.heap.size = C := ⟨_, rfl⟩
          go_upto_region 9 with (go_at_call 25; refine HN.out.mono ?_; rintro e w4 ⟨rfl, rfl⟩)
          obtain ⟨w3, hw3⟩ : ∃ w3, w4.alloc (.cells #[.int .u32 0] 59) = w3 := ⟨_, rfl⟩
          have hg3 : w4.grownBy w3 none := by rw [← hw3]; exact gb_alloc (gb_refl _ _) _
          have hb3 := Blk.new w4 59 #[.int .u32 0]
          rw [hC, hw3] at hb3
          rw [hw3]
          clear hw3 hC
          have b30 := hb3.cell 0
          have HA3 := Lib.hid (And.intro (HA2.out.1.grow hg3) (And.intro hg3 (HA2.out.2.1.gb hg3 (by simp))))
          clear hb3 hg3
          have HVV := Lib.hid (valid_any 0 w3)
          go_upto_region 14 with (go_at_call 26; refine HVV.out.mono ?_; rintro e w5 ⟨rfl, hg5⟩; have H5 := Lib.hid (And.intro (HA3.out.1.grow hg5) (And.intro (gb_trans HA3.out.2.1 hg5) (HA3.out.2.2.gb hg5 (by simp)))); clear hg5)
          clear b30
          have HVA : Hid (some A ≠ v.ownBlock) := Lib.hid (fun e => by
            obtain ⟨_, cur, hc⟩ := H5.out.1.row e.symm
            exact blk_ne hc H5.out.1.var (by decide) rfl)
          obtain ⟨i0, hi0, hz0, hz1, hz2⟩ := info_parts info51
          have HOW := Lib.hid ((World.ownsRow.alloc H5.out.1.own (.cells #[.int .u32 st, .int .u32 0, .int .u32 (t : Int), .int .u32 c] 51)) : (w5.alloc (.cells #[.int .u32 st, .int .u32 0, .int .u32 (t : Int), .int .u32 c] 51)).drew.ownsRow B 51 4 v k xs)
          have HNW := Lib.hid (World.news_of_block (w := (w5.alloc (.cells #[.int .u32 st, .int .u32 0, .int .u32 (t : Int), .int .u32 c] 51)).drew) (B := w5.heap.size) (heap_alloc_new w5 (.cells #[.int .u32 st, .int .u32 0, .int .u32 (t : Int), .int .u32 c] 51)))
          have HS2 := Lib.hid (H5.out.1.var.alloc (.cells #[.int .u32 st, .int .u32 0, .int .u32 (t : Int), .int .u32 c] 51)).drew
          have hBz : B ≤ w5.heap.size := Nat.le_trans hB (Nat.le_trans HA2.out.2.2.size H5.out.2.1.size)
          have a1 : w5.drew.cell? ⟨A, 0, none⟩ = some v := H5.out.1.var.cell 0
          have xx : w5.drew.cell? ⟨X, 0, none⟩ = some (.int .u32 st) := H5.out.1.x.cell 0
          have y0 : w5.drew.cell? ⟨F, 0, none⟩ = some (.int .u32 0) := H5.out.2.2.cell 0
          have y1 : w5.drew.cell? ⟨F, 1, none⟩ = some (.int .u32 (t : Int)) := H5.out.2.2.cell 1
          have a2 : (w5.alloc (.cells #[.int .u32 st, .int .u32 0, .int .u32 (t : Int), .int .u32 c] 51)).drew.cell? ⟨A, 0, none⟩ = some v := HS2.out.cell 0
          go_region_law (refine step_append_lies _ (by rfl) (.tmp 85) (.tmp 94) 46 (by rfl) B 51 i0 _ 4 16 Tryd.underlying46 hi0 hz0 hz1 hz2 rfl (by omega) v k xs (by rfl) HOW.out ⟨w5.heap.size, 0, none⟩ 1 1 [.int .u32 st, .int .u32 0, .int .u32 (t : Int), .int .u32 c] (by rfl) rfl HNW.out (by simp [Value.oneCell']) (by omega) (by unfold maxLen; omega) (by omega) (by simp; omega) (w5.heap.size + 1) (by simp) ?_; intro g cap w6 ho6 hg6 hat6 hlt6; have hA6 := HS2.out.gb hg6 HVA.out; have a6 := hA6.cell 0; have f6 := hA6.free 0; have H6 := Lib.hid (And.intro ho6 (And.intro hg6 hat6)); clear hA6 ho6 hg6 hat6 hlt6)
          all_goals
            go_wp2_with fail
            refine bodyPost_ret (results_none rfl _ _ _) rfl ?_
            exact HR.out w6 g cap _ (gb_trans H5.out.2.1 (gb_drew (gb_alloc (gb_refl _ _) _))) HOW.out H6.out.2.1 (by
              rcases H6.out.2.2 with e | e
              · exact .inl e
              · exact .inr (by have := H5.out.2.1.size; omega)) H6.out.1
        · have hnok : s - 1 < c0 := by
            have := HK.out.2.2.1 t htn (by rw [HV.out.1]; exact HP.out) (by rw [HV.out.2.1]; exact hs0)
            rw [HV.out.1, HV.out.2.1, if_neg HKD.out] at this
            exact this
          obtain ⟨i, hi⟩ : ∃ i : Nat, s = (i : Int) + 1 := ⟨(s - 1).toNat, by omega⟩
          have hbnd : c0 ≤ 200000 := hle.1
          have hidx : i < c0 := by omega
          have c6' : w2.cell? ⟨S, t * 10 + 6, none⟩ = some (.int .u32 (4294967295 - (i : Int))) := by rw [c6, if_neg hs0, hi]; congr 3; omega
          have hl : lst ks ns t = false := by
            unfold lst
            rw [HV.out.2.1]
            simp [hs0]
          have HL := Lib.hid hl
          have hvt : ((4294967295 - (i : Int)) == 0) = false := by simp; omega
          clear c6 hnok hs0 hl
          obtain ⟨C, hC⟩ : ∃ C, w2.heap.size = C := ⟨_, rfl⟩
          go_upto_region 9 with (go_at_call 25; refine HN.out.mono ?_; rintro e w4 ⟨rfl, rfl⟩)
          obtain ⟨w3, hw3⟩ : ∃ w3, w4.alloc (.cells #[.int .u32 (4294967295 - (i : Int))] 59) = w3 := ⟨_, rfl⟩
          have hg3 : w4.grownBy w3 none := by rw [← hw3]; exact gb_alloc (gb_refl _ _) _
          have hb3 := Blk.new w4 59 #[.int .u32 (4294967295 - (i : Int))]
          rw [hC, hw3] at hb3
          rw [hw3]
          clear hw3 hC
          have b30 := hb3.cell 0
          have HA3 := Lib.hid (And.intro (HA2.out.1.grow hg3) (And.intro hg3 hb3))
          clear hb3 hg3
          have HVV := Lib.hid (valid_any (4294967295 - (i : Int)) w3)
          rw [hvt] at HVV
          go_upto_region 10 with (go_at_call 26; refine HVV.out.mono ?_; rintro e w5 ⟨rfl, hg5⟩; have H5 := Lib.hid (And.intro (HA3.out.1.grow hg5) (And.intro (gb_trans HA3.out.2.1 hg5) (HA3.out.2.2.gb hg5 (by simp)))); clear hg5)
          clear b30 c6' hi
          have rr : w5.drew.cell? ⟨R, 1, none⟩ = some (.slice (some ⟨g0, 0, none⟩) c0 c0) := H5.out.1.blk.cell 1
          have xx : w5.drew.cell? ⟨C, 0, none⟩ = some (.int .u32 (4294967295 - (i : Int))) := H5.out.2.2.cell 0
          have HGI := Lib.hid (fun (w : World) => geti_any (i : Int) (by omega) (by omega) w)
          go_region_held3 (fun w' => w'.cell? ⟨R, 1, none⟩ = some (.slice (some ⟨g0, 0, none⟩) c0 c0) ∧ w'.cell? ⟨C, 0, none⟩ = some (.int .u32 (4294967295 - (i : Int)))) (first | (go_keep; done) | exact HS.out)
              (first | (go_at_call 27; refine (HGI.out _).mono ?_; rintro e wg ⟨rfl, hgg⟩; have HE := Lib.hid (And.intro (H5.out.1.grow (gb_und hgg)) (gb_trans H5.out.2.1 (gb_und hgg))); have HS : Hid (wg.cell? ⟨R, 1, none⟩ = some (.slice (some ⟨g0, 0, none⟩) c0 c0) ∧ wg.cell? ⟨C, 0, none⟩ = some (.int .u32 (4294967295 - (i : Int)))) := Lib.hid ⟨HE.out.1.blk.cell 1, (H5.out.2.2.gb (gb_und hgg) (by simp)).cell 0⟩; clear hgg))
          clear rr xx HGI
          have hcnt : ∃ (x : Int) (cur : Array Value), Blk wg g0 87 cur ∧ cur[i * 3 + 1]? = some (.int .u32 x) := by
            obtain ⟨cur, z1, z2, z3, z4, z5, z6⟩ := HE.out.1.s0
            obtain ⟨_, ⟨x, hx⟩, _⟩ := z6 i hidx
            exact ⟨x, cur, z2, hx⟩
          obtain ⟨x, cur, hcur, hx⟩ := hcnt
          have hadd := addu ⟨g0, i * 3 + 1, none⟩ x c wg ((hcur.cell _).trans hx) (hcur.free _)
          have c7' := ((HE.out.1.set0 i ((x + c) % 4294967296)).sy.cell (j := t * 10 + 7) (by omega) (by omega)).trans HV.out.2.2.2.2.1
          have HEND := Lib.hid (And.intro (HE.out.1.set0 i ((x + c) % 4294967296)) HE.out.2)
          clear hcur hx
          go_wp2_with (first | (go_at_call 29; refine (has_any _).mono ?_; rintro e w8 ⟨rfl, rfl⟩))
          refine bodyPost_ret (results_none rfl _ _ _) rfl ?_
          refine ⟨rfl, ?_, v, .inl rfl, by rw [HL.out]; exact HEND.out.1⟩
          exact (Kp.of (L := LL S g0 g1 A v) (gb_trans HA2.out.2.2 (gb_none HEND.out.2)) (fun g e => .inl (.inl (Option.some.inj e).symm))).then (Kp.of (L := LL S g0 g1 A v) (gb_set (gb_refl _ (some g0)) (i * 3 + 1) none _) (fun g e => .inl (.inr (.inl (Option.some.inj e).symm)))) (fun _ _ h => h)
      · rw [hns] at HN
        have HP := Lib.hid hpin
        have HKD := Lib.hid hkind
        clear hpin hns hkind
        by_cases hs0 : s = 0
        · have hs0' := hs0
          subst hs0'
          have c6' : w2.cell? ⟨S, t * 10 + 6, none⟩ = some (.int .u32 0) := by rw [c6, if_pos rfl]
          have hl : lst ks ns t = true := by
            unfold lst
            rw [HV.out.1, HV.out.2.1]
            simp [HP.out]
          have HR : Hid (∀ (w6 : World) (g cap : Nat) (w9 : World), w2.grownBy w9 none → w9.ownsRow B 51 4 v k xs → w9.grownBy w6 v.ownBlock → (v.ownBlock = some g ∨ w2.heap.size ≤ g) → w6.ownsRow B 51 4 (.slice (some ⟨g, 0, none⟩) (k + 1) cap) (k + 1) (xs ++ [.int .u32 st, .int .u32 0, .int .u32 (t : Int), .int .u32 c]) →
              AcP w B R T S A X n g0 g1 c0 c1 kc v2 v3 vm st v k xs (lst ks ns t) t c (.returned (.tuple #[])) (w6.setCell ⟨A, 0, none⟩ (.slice (some ⟨g, 0, none⟩) (k + 1) cap))) := Lib.hid (by
            intro w6 g cap w9 h9 _ h6 hgv ho6
            rw [hl]
            refine ⟨rfl, ?_, _, ?_, HA2.out.1.app h9 h6 ho6⟩
            · refine ((Kp.of (gb_trans HA2.out.2.2 (gb_none h9)) (fun g e => .inl (.inl (Option.some.inj e).symm))).then (Kp.of (L := LL S g0 g1 A v) h6 (fun g e => .inl (.inr (.inr (.inr (.inr e)))))) (fun _ _ h => h)).then (Kp.of (L := LL S g0 g1 A v) (gb_set (gb_refl _ (some A)) 0 none _) (fun g e => .inl (.inr (.inr (.inr (.inl (Option.some.inj e).symm)))))) (fun _ _ h => h)
            · rcases hgv with e | e
              · exact .inr (.inl (by rw [e]; rfl))
              · exact .inr (.inr ⟨g, rfl, Nat.le_trans HA2.out.2.2.size e⟩))
          clear c6 hl
          obtain ⟨C, hC⟩ : ∃ C, w2.heap.size = C := ⟨_, rfl⟩
          go_upto_region 9 with (go_at_call 25; refine HN.out.mono ?_; rintro e w4 ⟨rfl, rfl⟩)
          obtain ⟨w3, hw3⟩ : ∃ w3, w4.alloc (.cells #[.int .u32 0] 59) = w3 := ⟨_, rfl⟩
          have hg3 : w4.grownBy w3 none := by rw [← hw3]; exact gb_alloc (gb_refl _ _) _
          have hb3 := Blk.new w4 59 #[.int .u32 0]
          rw [hC, hw3] at hb3
          rw [hw3]
          clear hw3 hC
          have b30 := hb3.cell 0
          have HA3 := Lib.hid (And.intro (HA2.out.1.grow hg3) (And.intro hg3 (HA2.out.2.1.gb hg3 (by simp))))
          clear hb3 hg3
          have HVV := Lib.hid (valid_any 0 w3)
          go_upto_region 14 with (go_at_call 26; refine HVV.out.mono ?_; rintro e w5 ⟨rfl, hg5⟩; have H5 := Lib.hid (And.intro (HA3.out.1.grow hg5) (And.intro (gb_trans HA3.out.2.1 hg5) (HA3.out.2.2.gb hg5 (by simp)))); clear hg5)
          clear b30
          have HVA : Hid (some A ≠ v.ownBlock) := Lib.hid (fun e => by
            obtain ⟨_, cur, hc⟩ := H5.out.1.row e.symm
            exact blk_ne hc H5.out.1.var (by decide) rfl)
          obtain ⟨i0, hi0, hz0, hz1, hz2⟩ := info_parts info51
          have HOW := Lib.hid ((World.ownsRow.alloc H5.out.1.own (.cells #[.int .u32 st, .int .u32 0, .int .u32 (t : Int), .int .u32 c] 51)) : (w5.alloc (.cells #[.int .u32 st, .int .u32 0, .int .u32 (t : Int), .int .u32 c] 51)).drew.ownsRow B 51 4 v k xs)
          have HNW := Lib.hid (World.news_of_block (w := (w5.alloc (.cells #[.int .u32 st, .int .u32 0, .int .u32 (t : Int), .int .u32 c] 51)).drew) (B := w5.heap.size) (heap_alloc_new w5 (.cells #[.int .u32 st, .int .u32 0, .int .u32 (t : Int), .int .u32 c] 51)))
          have HS2 := Lib.hid (H5.out.1.var.alloc (.cells #[.int .u32 st, .int .u32 0, .int .u32 (t : Int), .int .u32 c] 51)).drew
          have hBz : B ≤ w5.heap.size := Nat.le_trans hB (Nat.le_trans HA2.out.2.2.size H5.out.2.1.size)
          have a1 : w5.drew.cell? ⟨A, 0, none⟩ = some v := H5.out.1.var.cell 0
          have xx : w5.drew.cell? ⟨X, 0, none⟩ = some (.int .u32 st) := H5.out.1.x.cell 0
          have y0 : w5.drew.cell? ⟨F, 0, none⟩ = some (.int .u32 0) := H5.out.2.2.cell 0
          have y1 : w5.drew.cell? ⟨F, 1, none⟩ = some (.int .u32 (t : Int)) := H5.out.2.2.cell 1
          have a2 : (w5.alloc (.cells #[.int .u32 st, .int .u32 0, .int .u32 (t : Int), .int .u32 c] 51)).drew.cell? ⟨A, 0, none⟩ = some v := HS2.out.cell 0
          go_region_law (refine step_append_lies _ (by rfl) (.tmp 85) (.tmp 94) 46 (by rfl) B 51 i0 _ 4 16 Tryd.underlying46 hi0 hz0 hz1 hz2 rfl (by omega) v k xs (by rfl) HOW.out ⟨w5.heap.size, 0, none⟩ 1 1 [.int .u32 st, .int .u32 0, .int .u32 (t : Int), .int .u32 c] (by rfl) rfl HNW.out (by simp [Value.oneCell']) (by omega) (by unfold maxLen; omega) (by omega) (by simp; omega) (w5.heap.size + 1) (by simp) ?_; intro g cap w6 ho6 hg6 hat6 hlt6; have hA6 := HS2.out.gb hg6 HVA.out; have a6 := hA6.cell 0; have f6 := hA6.free 0; have H6 := Lib.hid (And.intro ho6 (And.intro hg6 hat6)); clear hA6 ho6 hg6 hat6 hlt6)
          all_goals
            go_wp2_with fail
            refine bodyPost_ret (results_none rfl _ _ _) rfl ?_
            exact HR.out w6 g cap _ (gb_trans H5.out.2.1 (gb_drew (gb_alloc (gb_refl _ _) _))) HOW.out H6.out.2.1 (by
              rcases H6.out.2.2 with e | e
              · exact .inl e
              · exact .inr (by have := H5.out.2.1.size; omega)) H6.out.1
        · have hnok : s - 1 < c1 := by
            have := HK.out.2.2.1 t htn (by rw [HV.out.1]; exact HP.out) (by rw [HV.out.2.1]; exact hs0)
            rw [HV.out.1, HV.out.2.1, if_pos HKD.out] at this
            exact this
          obtain ⟨i, hi⟩ : ∃ i : Nat, s = (i : Int) + 1 := ⟨(s - 1).toNat, by omega⟩
          have hbnd : c1 ≤ 200000 := hle.2
          have hidx : i < c1 := by omega
          have c6' : w2.cell? ⟨S, t * 10 + 6, none⟩ = some (.int .u32 (4294967295 - (i : Int))) := by rw [c6, if_neg hs0, hi]; congr 3; omega
          have hl : lst ks ns t = false := by
            unfold lst
            rw [HV.out.2.1]
            simp [hs0]
          have HL := Lib.hid hl
          have hvt : ((4294967295 - (i : Int)) == 0) = false := by simp; omega
          clear c6 hnok hs0 hl
          obtain ⟨C, hC⟩ : ∃ C, w2.heap.size = C := ⟨_, rfl⟩
          go_upto_region 9 with (go_at_call 25; refine HN.out.mono ?_; rintro e w4 ⟨rfl, rfl⟩)
          obtain ⟨w3, hw3⟩ : ∃ w3, w4.alloc (.cells #[.int .u32 (4294967295 - (i : Int))] 59) = w3 := ⟨_, rfl⟩
          have hg3 : w4.grownBy w3 none := by rw [← hw3]; exact gb_alloc (gb_refl _ _) _
          have hb3 := Blk.new w4 59 #[.int .u32 (4294967295 - (i : Int))]
          rw [hC, hw3] at hb3
          rw [hw3]
          clear hw3 hC
          have b30 := hb3.cell 0
          have HA3 := Lib.hid (And.intro (HA2.out.1.grow hg3) (And.intro hg3 hb3))
          clear hb3 hg3
          have HVV := Lib.hid (valid_any (4294967295 - (i : Int)) w3)
          rw [hvt] at HVV
          go_upto_region 10 with (go_at_call 26; refine HVV.out.mono ?_; rintro e w5 ⟨rfl, hg5⟩; have H5 := Lib.hid (And.intro (HA3.out.1.grow hg5) (And.intro (gb_trans HA3.out.2.1 hg5) (HA3.out.2.2.gb hg5 (by simp)))); clear hg5)
          clear b30 c6' hi
          have rr : w5.drew.cell? ⟨R, 2, none⟩ = some (.slice (some ⟨g1, 0, none⟩) c1 c1) := H5.out.1.blk.cell 2
          have xx : w5.drew.cell? ⟨C, 0, none⟩ = some (.int .u32 (4294967295 - (i : Int))) := H5.out.2.2.cell 0
          have HGI := Lib.hid (fun (w : World) => geti_any (i : Int) (by omega) (by omega) w)
          go_region_held3 (fun w' => w'.cell? ⟨R, 2, none⟩ = some (.slice (some ⟨g1, 0, none⟩) c1 c1) ∧ w'.cell? ⟨C, 0, none⟩ = some (.int .u32 (4294967295 - (i : Int)))) (first | (go_keep; done) | exact HS.out)
              (first | (go_at_call 27; refine (HGI.out _).mono ?_; rintro e wg ⟨rfl, hgg⟩; have HE := Lib.hid (And.intro (H5.out.1.grow (gb_und hgg)) (gb_trans H5.out.2.1 (gb_und hgg))); have HS : Hid (wg.cell? ⟨R, 2, none⟩ = some (.slice (some ⟨g1, 0, none⟩) c1 c1) ∧ wg.cell? ⟨C, 0, none⟩ = some (.int .u32 (4294967295 - (i : Int)))) := Lib.hid ⟨HE.out.1.blk.cell 2, (H5.out.2.2.gb (gb_und hgg) (by simp)).cell 0⟩; clear hgg))
          clear rr xx HGI
          have hcnt : ∃ (x : Int) (cur : Array Value), Blk wg g1 87 cur ∧ cur[i * 3 + 1]? = some (.int .u32 x) := by
            obtain ⟨cur, z1, z2, z3, z4, z5, z6⟩ := HE.out.1.s1
            obtain ⟨_, ⟨x, hx⟩, _⟩ := z6 i hidx
            exact ⟨x, cur, z2, hx⟩
          obtain ⟨x, cur, hcur, hx⟩ := hcnt
          have hadd := addu ⟨g1, i * 3 + 1, none⟩ x c wg ((hcur.cell _).trans hx) (hcur.free _)
          have c7' := ((HE.out.1.set1 i ((x + c) % 4294967296)).sy.cell (j := t * 10 + 7) (by omega) (by omega)).trans HV.out.2.2.2.2.1
          have HEND := Lib.hid (And.intro (HE.out.1.set1 i ((x + c) % 4294967296)) HE.out.2)
          clear hcur hx
          go_wp2_with (first | (go_at_call 29; refine (has_any _).mono ?_; rintro e w8 ⟨rfl, rfl⟩))
          refine bodyPost_ret (results_none rfl _ _ _) rfl ?_
          refine ⟨rfl, ?_, v, .inl rfl, by rw [HL.out]; exact HEND.out.1⟩
          exact (Kp.of (L := LL S g0 g1 A v) (gb_trans HA2.out.2.2 (gb_none HEND.out.2)) (fun g e => .inl (.inl (Option.some.inj e).symm))).then (Kp.of (L := LL S g0 g1 A v) (gb_set (gb_refl _ (some g1)) (i * 3 + 1) none _) (fun g e => .inl (.inr (.inr (.inl (Option.some.inj e).symm))))) (fun _ _ h => h)
end Go.Proofs.YtnfjfjcdehohhaaDoor
