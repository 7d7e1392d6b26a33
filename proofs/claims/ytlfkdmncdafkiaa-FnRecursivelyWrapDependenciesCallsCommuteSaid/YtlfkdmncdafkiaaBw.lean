/-
  buildWrapReprs, walked. No statement of the seat is proved here.
-/
import Derived.Test.YtlfkdmncdafkiaaBz
import Derived.Test.YtlfkdmncdafkiaaWa
namespace Go.Proofs.Ytlfkdmncdafkiaa
open Go.RowKit
set_option linter.unusedVariables false
set_option linter.unusedSimpArgs false

/-- one file laid -/
structure One (w : World) (p r : Nat) (z : Wf) : Prop where
  rr : ∃ cs, Blk w r 99 cs ∧ ∀ j, j < z.iz.length → ∀ i, i < 15 → cs[j * 15 + i]? = (rowL (fl (nth z.iz j)))[i]?
  pp : ∃ cs, Blk w p 81 cs ∧ cs.size = 64 ∧ cs[62]? = some (.int .u8 z.ek) ∧ cs[11]? = some (.int .u8 z.wr) ∧ cs[15]? = some (.bool z.dw) ∧ cs[35]? = some (.slice (some ⟨r, 0, none⟩) z.iz.length z.iz.length)
/-- the world behind the first i files -/
structure Bq (w wx : World) (Q F n i : Nat) (P R : Nat → Nat) (fs : List Wf) : Prop where
  q : ∃ qs, Blk wx Q 82 qs ∧ qs.size = n ∧ ∀ v, v < i → qs[v]? = some (.pointer (some ⟨P v, 0, none⟩))
  f : ∃ cs, Blk wx F 121 cs ∧ cs.size = n * 24 ∧ ∀ v, v < i → cs[v * 24 + 2]? = some (.iface 82 (.pointer (some ⟨P v, 0, none⟩)))
  o : ∀ v, v < i → One wx (P v) (R v) (wf fs v)
  lo : ∀ v, v < i → w.heap.size ≤ P v ∧ w.heap.size ≤ R v
  inj : ∀ u v, u < i → v < i → P u = P v → u = v
  g : w.grownBy wx none
  b : w.heap.size ≤ Q ∧ w.heap.size ≤ F
theorem One.gb {w w' : World} {p r : Nat} {z : Wf} (h : One w p r z) {b : Option Nat} (hg : w.grownBy w' b) (hp : some p ≠ b) (hr : some r ≠ b) : One w' p r z := by
  obtain ⟨cs, h1, h2⟩ := h.rr
  obtain ⟨ds, k1, k2⟩ := h.pp
  exact ⟨⟨cs, h1.gb hg hr, h2⟩, ⟨ds, k1.gb hg hp, k2⟩⟩
theorem One.p_lt {w : World} {p r : Nat} {z : Wf} (h : One w p r z) : p < w.heap.size ∧ r < w.heap.size := by
  obtain ⟨cs, h1, h2⟩ := h.rr
  obtain ⟨ds, k1, k2⟩ := h.pp
  exact ⟨k1.lt, h1.lt⟩
theorem One.past {w w' : World} {p r b : Nat} {t : TypeId} {bs : Array Value} {z : Wf} (h : One w p r z) (hb : Blk w b t bs) (h1 : (81 : TypeId) ≠ t) (h2 : (99 : TypeId) ≠ t) (hg : w.grownBy w' (some b)) : One w' p r z := by
  obtain ⟨cs, q1, q2⟩ := h.rr
  obtain ⟨ds, k1, k2⟩ := h.pp
  exact ⟨⟨cs, q1.gb hg (fun e => blk_ne q1 hb h2 (Option.some.inj e)), q2⟩, ⟨ds, k1.gb hg (fun e => blk_ne k1 hb h1 (Option.some.inj e)), k2⟩⟩
theorem Bq.next {w wz wx : World} {Q F n i p r : Nat} {P R : Nat → Nat} {fs : List Wf} (h : Bq w wz Q F n i P R fs)
    (hq : ∃ qs, Blk wx Q 82 qs ∧ qs.size = n ∧ (∀ v, v < i → qs[v]? = some (.pointer (some ⟨P v, 0, none⟩))) ∧ qs[i]? = some (.pointer (some ⟨p, 0, none⟩)))
    (hf : ∃ cs, Blk wx F 121 cs ∧ cs.size = n * 24 ∧ (∀ v, v < i → cs[v * 24 + 2]? = some (.iface 82 (.pointer (some ⟨P v, 0, none⟩)))) ∧ cs[i * 24 + 2]? = some (.iface 82 (.pointer (some ⟨p, 0, none⟩))))
    (ho : One wx p r (wf fs i)) (hold : ∀ v, v < i → One wx (P v) (R v) (wf fs v)) (hp : wz.heap.size ≤ p) (hr : wz.heap.size ≤ r) (hg : w.grownBy wx none) : ∃ P R, Bq w wx Q F n (i + 1) P R fs := by
  obtain ⟨qs, q1, q2, q3, q4⟩ := hq
  obtain ⟨cs, k1, k2, k3, k4⟩ := hf
  have hs := h.g.size
  have hlt : ∀ v, v < i → P v < wz.heap.size := fun v hv => (h.o v hv).p_lt.1
  refine ⟨fun v => if v = i then p else P v, fun v => if v = i then r else R v, ⟨qs, q1, q2, fun v hv => ?_⟩, ⟨cs, k1, k2, fun v hv => ?_⟩, fun v hv => ?_, fun v hv => ?_, fun u v hu hv e => ?_, hg, h.b⟩
  · by_cases e : v = i
    · subst e; rw [if_pos rfl]; exact q4
    · rw [if_neg e]; exact q3 v (by omega)
  · by_cases e : v = i
    · subst e; rw [if_pos rfl]; exact k4
    · rw [if_neg e]; exact k3 v (by omega)
  · by_cases e : v = i
    · subst e; simp only [if_pos rfl]; exact ho
    · simp only [if_neg e]; exact hold v (by omega)
  · by_cases e : v = i
    · subst e; simp only [if_true]; exact ⟨by omega, by omega⟩
    · simp only [if_neg e]; exact h.lo v (by omega)
  · by_cases eu : u = i
    · by_cases ev : v = i
      · rw [eu, ev]
      · simp only [if_pos eu, if_neg ev] at e
        have := hlt v (by omega)
        omega
    · by_cases ev : v = i
      · simp only [if_neg eu, if_pos ev] at e
        have := hlt u (by omega)
        omega
      · simp only [if_neg eu, if_neg ev] at e
        exact h.inj u v (by omega) (by omega) e
theorem below_of {w w' : World} (h : w.grownBy w' none) : Below w.heap.size w w' := ⟨h.os, h.tape, h.output, h.size, fun i hi => h.block i hi (by simp)⟩
theorem u32_small (i : Nat) (h : i < 4294967296) : IntKind.u32.wrap (i : Int) = (i : Int) := by rw [IntKind.wrap_u32]; omega
/-- the rows of records behind the first j imports -/
def Rows_ (w : World) (r : Nat) (iz : List Int) (j : Nat) : Prop :=
  ∃ cs, Blk w r 99 cs ∧ cs.size = iz.length * 15 ∧ (∀ v, v < j → ∀ i, i < 15 → cs[v * 15 + i]? = (rowL (fl (nth iz v)))[i]?) ∧ ∀ v, j ≤ v → v < iz.length → ∀ i, i < 15 → cs[v * 15 + i]? = (rowL 0)[i]?
theorem Rows_.step0 {w w' : World} {r : Nat} {iz : List Int} {j : Nat} (h : Rows_ w r iz j) (hj : j < iz.length) (ht : ¬ 0 ≤ nth iz j) (hg : w.grownBy w' none) : Rows_ w' r iz (j + 1) := by
  obtain ⟨cs, h1, h2, h3, h4⟩ := h
  refine ⟨cs, h1.gb hg (by simp), h2, fun v hv i hi => ?_, fun v hv hl i hi => h4 v (by omega) hl i hi⟩
  by_cases e : v = j
  · subst e
    rw [h4 v (Nat.le_refl _) hj i hi]
    unfold fl
    rw [if_neg ht]
  · exact h3 v (by omega) i hi
theorem Rows_.step1 {w : World} {r : Nat} {iz : List Int} {j : Nat} (h : Rows_ w r iz j) (hj : j < iz.length) (ht : 0 ≤ nth iz j) : Rows_ (w.setCell ⟨r, j * 15 + 10, none⟩ (.int .u32 (4294967295 - nth iz j))) r iz (j + 1) := by
  obtain ⟨cs, h1, h2, h3, h4⟩ := h
  refine ⟨_, h1.set _ _, by simp [h2], fun v hv i hi => ?_, fun v hv hl i hi => ?_⟩
  · by_cases e : v = j
    · subst e
      have hfl : fl (nth iz v) = 4294967295 - nth iz v := by unfold fl; rw [if_pos ht]
      rw [hfl]
      by_cases e2 : i = 10
      · subst e2
        rw [Array.getElem?_setIfInBounds_self_of_lt (by omega)]
        rfl
      · rw [Array.getElem?_setIfInBounds_ne (by omega), h4 v (Nat.le_refl _) hj i hi]
        match i, hi, e2 with
        | 0, _, _ => rfl
        | 1, _, _ => rfl
        | 2, _, _ => rfl
        | 3, _, _ => rfl
        | 4, _, _ => rfl
        | 5, _, _ => rfl
        | 6, _, _ => rfl
        | 7, _, _ => rfl
        | 8, _, _ => rfl
        | 9, _, _ => rfl
        | 11, _, _ => rfl
        | 12, _, _ => rfl
        | 13, _, _ => rfl
        | 14, _, _ => rfl
    · rw [Array.getElem?_setIfInBounds_ne (by omega)]
      exact h3 v (by omega) i hi
  · rw [Array.getElem?_setIfInBounds_ne (by omega)]
    exact h4 v (by omega) hl i hi
set_option maxHeartbeats 8000000 in
set_option maxRecDepth 100000 in
theorem bw_any (ao : Option Addr) (n cap : Nat) (fs : List Wf) (hn : fs.length = n) (hok : OkE fs) (hokz : ∀ i, i < fs.length → Okz (wf fs i)) (w : World) (hin : Fz w ao fs) :
    Calls Try.prog 6 #[.slice ao n cap] w fun e w' => ∃ Q F P R, e = .returned (.tuple #[.slice (some ⟨Q, 0, none⟩) n n, .slice (some ⟨F, 0, none⟩) n n]) ∧ Bq w w' Q F n n P R fs := by
  have hn4 : n ≤ 4096 := by rw [← hn]; exact hok.1
  have HOK := Lib.hid (And.intro hok (And.intro hin hn))
  have HKZ := Lib.hid hokz
  clear hok hin hn hokz
  go_enter Try.func6, Try.ntmps6
  go_upto_region 2 with (at_make; refine wpList_make_blk w rfl _ _ 26 rfl 82 (.pointer none) 1 8 Try.underlying26 info82 n rfl rfl (by omega) (by unfold maxLen; omega) ?_; intro w1 hb1 hg1; have H1 := Lib.hid (And.intro hb1 hg1); clear hb1 hg1)
  obtain ⟨Q, hQ⟩ : ∃ Q, w.heap.size = Q := ⟨_, rfl⟩
  rw [hQ]
  go_upto_region 3 with (at_make; refine wpList_make_blk w1 rfl _ _ 27 rfl 121 (.agg zlf) 24 280 Try.underlying27 zinfo121 n rfl rfl (by omega) (by unfold maxLen; omega) ?_; intro w2 hb2 hg2; have H2 := Lib.hid (And.intro hb2 hg2); clear hb2 hg2)
  obtain ⟨F, hF⟩ : ∃ F, w1.heap.size = F := ⟨_, rfl⟩
  try rw [hF]
  have H0 : Hid (Bq w w2 Q F n 0 (fun _ => 0) (fun _ => 0) fs) := Lib.hid (by
    have h1 := H1.out.1
    have h2 := H2.out.1
    rw [hQ] at h1
    rw [hF] at h2
    have hgs := H1.out.2.size
    exact ⟨⟨_, h1.gb H2.out.2 (by simp), by simp [madeCells], fun v hv => by omega⟩, ⟨_, h2, by simp [madeCells], fun v hv => by omega⟩, fun v hv => by omega, fun v hv => by omega, fun u v hu => by omega, gb_trans H1.out.2 H2.out.2, by omega, by omega⟩)
  clear H1 H2 hQ hF
  go_wp2_with fail
  go_loopg [6] n (fun k x wx => ∃ i : Nat, x = .int .i64 (i : Int) ∧ i ≤ n ∧ n - i ≤ k ∧ Hid (∃ P R, Bq w wx Q F n i P R fs))
  case atStart => exact ⟨0, rfl, by omega, by omega, Lib.hid ⟨_, _, H0.out⟩⟩
  case round =>
    obtain ⟨i, rfl, hi, hk, HB⟩ := hrel
    obtain ⟨wz, rfl⟩ : ∃ wz : World, wz = wr := ⟨_, rfl⟩
    obtain ⟨gO, rfl⟩ : ∃ gO, gO = gk := ⟨_, rfl⟩
    rcases (show n = i ∨ i < n by omega) with he | hlt
    · obtain rfl := he
      go_wp2_with fail
      obtain ⟨P, R, hb⟩ := HB.out
      exact bodyPost_ret (results_tmp2 rfl _ _ _) rfl ⟨Q, F, P, R, rfl, hb⟩
    · obtain ⟨P, R, hbq⟩ := HB.out
      have HQ := Lib.hid hbq
      clear hbq HB
      obtain ⟨b, off, rfl, lb, hf⟩ := HOK.out.2.1.at (i := i) (by rw [HOK.out.2.2]; exact hlt)
      have HF := Lib.hid (And.intro lb hf)
      clear lb hf
      obtain ⟨p, hp⟩ : ∃ p, wz.heap.size = p := ⟨_, rfl⟩
      go_upto_region 7 with (refine wpList_build rfl 81 _ rfl [] rfl zjs build81 ?_)
      have hb0 := Blk.new wz 81 zjs
      rw [hp] at hb0
      have H3 : Hid (wz.grownBy (wz.alloc (.cells zjs 81)) none ∧ w.grownBy (wz.alloc (.cells zjs 81)) none ∧ w.heap.size ≤ p) := Lib.hid ⟨gb_alloc (gb_refl _ _) _, gb_alloc HQ.out.g _, by rw [← hp]; exact HQ.out.g.size⟩
      have HP := Lib.hid hp
      clear hp
      generalize wz.alloc (.cells zjs 81) = w3 at hb0 H3 ⊢
      have hf3 := HF.out.2.kept HF.out.1 (below_of H3.out.2.1)
      obtain ⟨z, hz⟩ : ∃ z, wf fs i = z := ⟨_, rfl⟩
      rw [hz] at hf3
      have HZ := Lib.hid hz
      clear hz
      have lb3 : b < w3.heap.size := Nat.lt_of_lt_of_le HF.out.1 H3.out.2.1.size
      have c0 := hf3.c0
      have c1 := hf3.c1
      have c2 := hf3.c2
      have c3 := hf3.c3
      have HI := Lib.hid hf3.im
      clear hf3
      have hbp : ¬ b = p := by have := H3.out.2.2; have := HF.out.1; omega
      have lp := hb0.lt
      have f1 := hb0.free 62
      obtain ⟨v1, k1⟩ := hb0.has (i := 62) (by simp [zjs_size])
      have h1 := hb0.set 62 (.int .u8 z.ek)
      have f2 := h1.free 11
      obtain ⟨v2, k2⟩ := h1.has (i := 11) (by simp [zjs_size])
      have h2 := h1.set 11 (.int .u8 z.wr)
      have f3 := h2.free 15
      obtain ⟨v3, k3⟩ := h2.has (i := 15) (by simp [zjs_size])
      have h3 := h2.set 15 (.bool z.dw)
      have H4 := Lib.hid h3
      clear h1 h2 h3 hb0
      go_upto_region 10 with fail
      clear f1 f2 f3 k1 k2 k3 v1 v2 v3 c0 c1 c2 lp
      have H5 : Hid (wz.grownBy (((w3.setCell ⟨p, 62, none⟩ (.int .u8 z.ek)).setCell ⟨p, 11, none⟩ (.int .u8 z.wr)).setCell ⟨p, 15, none⟩ (.bool z.dw)) none ∧ w3.grownBy (((w3.setCell ⟨p, 62, none⟩ (.int .u8 z.ek)).setCell ⟨p, 11, none⟩ (.int .u8 z.wr)).setCell ⟨p, 15, none⟩ (.bool z.dw)) (some p)) := Lib.hid (by
        have hg : w3.grownBy (((w3.setCell ⟨p, 62, none⟩ (.int .u8 z.ek)).setCell ⟨p, 11, none⟩ (.int .u8 z.wr)).setCell ⟨p, 15, none⟩ (.bool z.dw)) (some p) := gb_set (gb_set (gb_set (gb_refl _ _) _ _ _) _ _ _) _ _ _
        exact ⟨gb_new (gb_trans (gb_none H3.out.1) hg) (by rw [HP.out]; exact Nat.le_refl _), hg⟩)
      have c3' : (((w3.setCell ⟨p, 62, none⟩ (.int .u8 z.ek)).setCell ⟨p, 11, none⟩ (.int .u8 z.wr)).setCell ⟨p, 15, none⟩ (.bool z.dw)).cell? ⟨b, off + i * 4 + 3, none⟩ = some (.slice z.ia z.iz.length z.ic) := (World.cell?_of_block (w := w3) (H5.out.2.block b lb3 (fun e => hbp (Option.some.inj e)))).trans c3
      clear c3
      generalize (((w3.setCell ⟨p, 62, none⟩ (.int .u8 z.ek)).setCell ⟨p, 11, none⟩ (.int .u8 z.wr)).setCell ⟨p, 15, none⟩ (.bool z.dw)) = w5 at H4 H5 c3' ⊢
      obtain ⟨m, hm⟩ : ∃ m, z.iz.length = m := ⟨_, rfl⟩
      rw [hm] at c3'
      have hm20 : m ≤ 1048576 := by rw [← hm, ← HZ.out]; exact (HOK.out.1.2 i (by rw [HOK.out.2.2]; exact hlt)).1
      have HM := Lib.hid hm
      clear hm
      have lb5 : b < w5.heap.size := Nat.lt_of_lt_of_le lb3 H5.out.2.size
      clear lb3
      obtain ⟨r, hr⟩ : ∃ r, w5.heap.size = r := ⟨_, rfl⟩
      go_upto_region 11 with (at_make; refine wpList_make_blk w5 rfl _ _ 67 rfl 99 (.agg (rowL 0).toArray) 15 112 Try.underlying67 info99 m rfl rfl (by omega) (by unfold maxLen; omega) ?_; intro w6 hb6 hg6; have H6 := Lib.hid (And.intro hb6 hg6); clear hb6 hg6)
      try rw [hr]
      have HR : Hid (Rows_ w6 r z.iz 0 ∧ w5.grownBy w6 (some r) ∧ w5.heap.size = r) := Lib.hid (by
        have h := H6.out.1
        rw [hr] at h
        refine ⟨⟨_, h, by simp [madeCells, HM.out], fun v hv => by omega, fun v _ hv k hk => ?_⟩, gb_none H6.out.2, hr⟩
        rw [HM.out] at hv
        exact made_rows m v k hv hk)
      have HRZ : Hid (w.heap.size ≤ r ∧ p < r ∧ w.heap.size ≤ p) := Lib.hid (by
        have h1 := H5.out.2.size
        have h2 := H3.out.2.1.size
        have h3 := H4.out.lt
        exact ⟨by omega, by omega, H3.out.2.2⟩)
      have HBY : Hid (∀ wx, w5.grownBy wx (some r) → w.grownBy wx none) := Lib.hid (fun wx hg => gb_new (gb_trans (gb_none (gb_new (gb_trans (gb_none H3.out.2.1) H5.out.2) H3.out.2.2)) hg) HRZ.out.1)
      have HPB : Hid (∀ wx, w5.grownBy wx (some r) → Blk wx p 81 (((zjs.setIfInBounds 62 (.int .u8 z.ek)).setIfInBounds 11 (.int .u8 z.wr)).setIfInBounds 15 (.bool z.dw)) ∧ (((zjs.setIfInBounds 62 (.int .u8 z.ek)).setIfInBounds 11 (.int .u8 z.wr)).setIfInBounds 15 (.bool z.dw)).size = 64 ∧ wz.grownBy wx none) := Lib.hid (fun wx hg =>
        ⟨H4.out.gb hg (fun e => by have := Option.some.inj e; have := HRZ.out.2.1; omega), by simp [zjs_size], gb_new (gb_trans (gb_none H5.out.1) hg) (by have := HRZ.out.2.1; have := HP.out; omega)⟩)
      have HRG : Hid (∀ wx wx' (j : Nat), Rows_ wx r z.iz j → wx.grownBy wx' none → Rows_ wx' r z.iz j) := Lib.hid (fun wx wx' j h hg => by
        obtain ⟨cs, q1, q2⟩ := h
        exact ⟨cs, q1.gb hg (by simp), q2⟩)
      have HOZ : Hid (Okz z) := Lib.hid (by rw [← HZ.out]; exact HKZ.out i (by rw [HOK.out.2.2]; exact hlt))
      clear H6 hr lb5 c3'
      go_wp2_with fail
      go_loopg [9] m (fun k x wx => ∃ j : Nat, x = .int .i64 (j : Int) ∧ j ≤ m ∧ m - j ≤ k ∧ Hid (Rows_ wx r z.iz j ∧ w5.grownBy wx (some r)))
      case atStart => exact ⟨0, rfl, by omega, by omega, Lib.hid ⟨HR.out.1, HR.out.2.1⟩⟩
      case round =>
        obtain ⟨j, rfl, hj, hkj, HJ⟩ := hrel
        obtain ⟨wy, rfl⟩ : ∃ wy : World, wy = wr := ⟨_, rfl⟩
        rcases (show m = j ∨ j < m by omega) with he | hltj
        · obtain rfl := he
          have hby := HBY.out wy HJ.out.2
          obtain ⟨hp0, hpsz, hp1⟩ := HPB.out wy HJ.out.2
          have f35 := hp0.free 35
          obtain ⟨v35, k35⟩ := hp0.has (i := 35) (by rw [hpsz]; omega)
          have lp := hp0.lt
          have hset := hp0.set 35 (.slice (some ⟨r, 0, none⟩) m m)
          have H7 := Lib.hid (And.intro hset (And.intro hpsz hp1))
          have HBY7 := Lib.hid hby
          clear hp0 hpsz hp1 hset hby
          go_upto_region 18 with fail
          clear f35 v35 k35 lp
          have hg35 : wy.grownBy (wy.setCell ⟨p, 35, none⟩ (.slice (some ⟨r, 0, none⟩) m m)) (some p) := gb_set (gb_refl _ _) _ _ _
          have H8 : Hid (One (wy.setCell ⟨p, 35, none⟩ (.slice (some ⟨r, 0, none⟩) m m)) p r (wf fs i) ∧ wz.grownBy (wy.setCell ⟨p, 35, none⟩ (.slice (some ⟨r, 0, none⟩) m m)) none ∧ w.grownBy (wy.setCell ⟨p, 35, none⟩ (.slice (some ⟨r, 0, none⟩) m m)) none) := Lib.hid (by
            obtain ⟨hset, hpsz, hp1⟩ := H7.out
            obtain ⟨cs, q1, q2, q3, q4⟩ := HJ.out.1
            have hpr := HRZ.out.2.1
            refine ⟨⟨⟨cs, q1.gb hg35 (fun e => by have := Option.some.inj e; omega), fun v hv k hk => ?_⟩, ⟨_, hset, by simp [zjs_size], ?_, ?_, ?_, ?_⟩⟩, gb_new (gb_trans (gb_none hp1) hg35) (by have := HP.out; omega), gb_new (gb_trans (gb_none HBY7.out) hg35) HRZ.out.2.2⟩
            · rw [HZ.out] at hv ⊢
              rw [HM.out] at hv
              exact q3 v hv k hk
            · rw [HZ.out, Array.getElem?_setIfInBounds_ne (by omega), Array.getElem?_setIfInBounds_ne (by omega), Array.getElem?_setIfInBounds_ne (by omega)]
              exact Array.getElem?_setIfInBounds_self_of_lt (by rw [zjs_size]; omega)
            · rw [HZ.out, Array.getElem?_setIfInBounds_ne (by omega), Array.getElem?_setIfInBounds_ne (by omega)]
              exact Array.getElem?_setIfInBounds_self_of_lt (by simp [zjs_size])
            · rw [HZ.out, Array.getElem?_setIfInBounds_ne (by omega)]
              exact Array.getElem?_setIfInBounds_self_of_lt (by simp [zjs_size])
            · rw [HZ.out, HM.out]
              exact Array.getElem?_setIfInBounds_self_of_lt (by simp [zjs_size]))
          clear hg35 H7 HBY7
          generalize wy.setCell ⟨p, 35, none⟩ (.slice (some ⟨r, 0, none⟩) m m) = w7 at H8 ⊢
          obtain ⟨qs, hq1, hq2, hq3⟩ := HQ.out.q
          have hq1 := hq1.gb H8.out.2.1 (by simp)
          have fq := hq1.free i
          obtain ⟨vq, kq⟩ := hq1.has (i := i) (by omega)
          have lq := hq1.lt
          have H9 : Hid (One (w7.setCell ⟨Q, i, none⟩ (.pointer (some ⟨p, 0, none⟩))) p r (wf fs i) ∧ w.grownBy (w7.setCell ⟨Q, i, none⟩ (.pointer (some ⟨p, 0, none⟩))) none ∧ (∀ v, v < i → One (w7.setCell ⟨Q, i, none⟩ (.pointer (some ⟨p, 0, none⟩))) (P v) (R v) (wf fs v)) ∧
              (∃ qs, Blk (w7.setCell ⟨Q, i, none⟩ (.pointer (some ⟨p, 0, none⟩))) Q 82 qs ∧ qs.size = n ∧ (∀ v, v < i → qs[v]? = some (.pointer (some ⟨P v, 0, none⟩))) ∧ qs[i]? = some (.pointer (some ⟨p, 0, none⟩))) ∧
              (∃ cs, Blk (w7.setCell ⟨Q, i, none⟩ (.pointer (some ⟨p, 0, none⟩))) F 121 cs ∧ cs.size = n * 24 ∧ ∀ v, v < i → cs[v * 24 + 2]? = some (.iface 82 (.pointer (some ⟨P v, 0, none⟩))))) := Lib.hid (by
            have hg : w7.grownBy (w7.setCell ⟨Q, i, none⟩ (.pointer (some ⟨p, 0, none⟩))) (some Q) := gb_set (gb_refl _ _) _ _ _
            obtain ⟨cs, c1, c2, c3⟩ := HQ.out.f
            have c1' := c1.gb H8.out.2.1 (by simp)
            refine ⟨H8.out.1.past hq1 (by decide) (by decide) hg, gb_new (gb_trans (gb_none H8.out.2.2) hg) HQ.out.b.1, fun v hv => ((HQ.out.o v hv).gb H8.out.2.1 (by simp) (by simp)).past hq1 (by decide) (by decide) hg, ⟨_, hq1.set i _, by simp [hq2], fun v hv => ?_, ?_⟩, ⟨cs, c1'.gb hg (fun e => blk_ne c1' hq1 (by decide) (Option.some.inj e)), c2, c3⟩⟩
            · rw [Array.getElem?_setIfInBounds_ne (by omega)]; exact hq3 v hv
            · exact Array.getElem?_setIfInBounds_self_of_lt (by omega))
          clear hq1 hq2 hq3
          go_upto_region 19 with fail
          clear fq vq kq lq
          generalize w7.setCell ⟨Q, i, none⟩ (.pointer (some ⟨p, 0, none⟩)) = w8 at H9 ⊢
          have HJF := Lib.hid (fun w => jf_any p 10 w)
          obtain ⟨cs, hc1, hc2, hc3⟩ := H9.out.2.2.2.2
          have HC := Lib.hid (And.intro hc1 (And.intro hc2 hc3))
          clear hc1 hc2 hc3
          go_wp2_with (first
            | (go_at_call 10; refine (HJF.out _).mono ?_; rintro e w9 ⟨rfl, hg9⟩; have HG9 := Lib.hid hg9; have HB9 := Lib.hid (HC.out.1.gb hg9 (by simp)); have lF9 := HB9.out.lt; clear hg9)
            | (refine wpList_store_mid rfl 121 _ _ rfl F (i * 24) cs (lfC p 10) HB9.out rfl rfl (by rw [lfCsz, HC.out.2.1]; omega) (info121 _ _) (one121 _ _) ?_; intro w10 cs10 hb10 hs10 ho10 hn10 hg10; have H10 := Lib.hid (And.intro hb10 (And.intro hs10 (And.intro ho10 (And.intro hn10 hg10)))); clear hb10 hs10 ho10 hn10 hg10))
          go_roundg (gO - 1)
          case measure => omega
          case rel =>
            obtain ⟨h1, h2, h3, h4, h5⟩ := H10.out
            obtain ⟨qs, q1, q2, q3, q4⟩ := H9.out.2.2.2.1
            have g9 := HG9.out
            have q1' := q1.gb g9 (by simp)
            have e2 := h4 2 (by rw [lfCsz]; omega)
            rw [lfC2] at e2
            refine ⟨i + 1, by go_num, by omega, by omega, Lib.hid (HQ.out.next ⟨qs, q1'.gb h5 (fun e => blk_ne q1' HB9.out (by decide) (Option.some.inj e)), q2, q3, q4⟩ ⟨cs10, h1, by rw [h2]; exact HC.out.2.1, fun v hv => ?_, e2⟩ ((H9.out.1.gb g9 (by simp) (by simp)).past HB9.out (by decide) (by decide) h5)
              (fun v hv => ((H9.out.2.2.1 v hv).gb g9 (by simp) (by simp)).past HB9.out (by decide) (by decide) h5) (by rw [HP.out]; exact Nat.le_refl _) (by have := HP.out; have := HRZ.out.2.1; omega) (gb_new (gb_trans (gb_none (gb_trans H9.out.2.1 g9)) h5) HQ.out.b.2))⟩
            rw [h3 (v * 24 + 2) (.inl (by omega))]
            exact HC.out.2.2 v hv
        · have hby := HBY.out wy HJ.out.2
          have hf := HF.out.2.kept HF.out.1 (below_of hby)
          rw [HZ.out] at hf
          have c3 := hf.c3
          rw [HM.out] at c3
          have lby : b < wy.heap.size := Nat.lt_of_lt_of_le HF.out.1 hby.size
          obtain ⟨b2, off2, hia, lb2, ct⟩ := hf.im.at (i := j) (by rw [HM.out]; exact hltj)
          rw [hia] at c3
          have hrange := (HOZ.out).im j (by rw [HM.out]; exact hltj)
          obtain ⟨t, ht⟩ : ∃ t, nth z.iz j = t := ⟨_, rfl⟩
          rw [ht] at ct hrange
          have HT := Lib.hid ht
          have HY := Lib.hid hby
          clear hf hia hby ht
          by_cases ht0 : 0 ≤ t
          · obtain ⟨c, rfl⟩ : ∃ c : Nat, t = (c : Int) := ⟨t.toNat, by omega⟩
            have wr1 : IntKind.u32.wrap (c : Int) = (c : Int) := u32_small c (by omega)
            have HMK := Lib.hid (fun w => mk_any (c : Int) (by omega) (by omega) w)
            have d0 : decide ((0 : Int) ≤ (c : Int)) = true := by simp
            clear ht0 hrange
            go_upto_region 16 with fail
            go_wp2_with (go_at_call 9; refine (HMK.out _).mono ?_; rintro e w8 ⟨rfl, hg8⟩; have h8 : Rows_ w8 r z.iz j := HRG.out _ _ _ HJ.out.1 hg8; obtain ⟨cs8, q1, q2, q3, q4⟩ := h8; have f8 := q1.free (j * 15 + 10); have k8 := q1.has (i := j * 15 + 10) (by rw [q2, HM.out]; omega); obtain ⟨v8, k8⟩ := k8; have l8 := q1.lt; have H8 := Lib.hid (And.intro (show Rows_ w8 r z.iz j from ⟨cs8, q1, q2, q3, q4⟩) hg8); clear q1 q2 q3 q4 hg8)
            go_roundg (gk - 1)
            case measure => clear wr1; omega
            case rel =>
              clear wr1
              have h := Rows_.step1 H8.out.1 (by rw [HM.out]; exact hltj) (by rw [HT.out]; omega)
              rw [HT.out] at h
              exact ⟨j + 1, by go_num, by omega, by omega, Lib.hid ⟨h, gb_set (gb_trans HJ.out.2 (gb_none H8.out.2)) _ _ _⟩⟩
          · have d0 : decide ((0 : Int) ≤ t) = false := by simp; omega
            have HT0 := Lib.hid ht0
            clear ht0 hrange
            go_wp2_with fail
            go_roundg (gk - 1)
            case measure => omega
            case rel => exact ⟨j + 1, by go_num, by omega, by omega, Lib.hid ⟨HJ.out.1.step0 (by rw [HM.out]; exact hltj) (by rw [HT.out]; have := HT0.out; omega) (gb_refl _ _), HJ.out.2⟩⟩
end Go.Proofs.Ytlfkdmncdafkiaa
