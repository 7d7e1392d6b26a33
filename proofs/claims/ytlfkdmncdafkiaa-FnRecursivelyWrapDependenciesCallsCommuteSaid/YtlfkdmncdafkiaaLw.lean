/-
  The law, walked. No statement of the seat is proved here.
-/
import Derived.Test.YtlfkdmncdafkiaaBw
import Derived.Test.YtlfkdmncdafkiaaFt
namespace Go.Proofs.Ytlfkdmncdafkiaa
open Go.RowKit
set_option linter.unusedVariables false
set_option linter.unusedSimpArgs false

theorem gb_drewN (w : World) (d : Nat) : w.grownBy (w.drewN d) none := ⟨rfl, rfl, rfl, Nat.le_refl _, fun _ _ _ => rfl⟩
theorem Ext.below {P : Nat → Nat} {n B : Nat} {w w' : World} (h : Ext P n w w') (hB : B ≤ w.heap.size) (hP : ∀ v, v < n → B ≤ P v) : Below B w w' :=
  ⟨h.os, h.tape, h.output, h.size, fun i hi => h.block i (by omega) (fun v hv e => by have := hP v hv; omega)⟩
theorem zz_any (C F : Nat) (P R : Nat → Nat) (fs : List Wf) (hok : OkE fs) (a : Nat) (d : Nat → Bool) (W : Nat → Int) (w : World) (ha : a < fs.length) (hs : St w C F P R fs d W) :
    Calls Try.prog 8 #[.pointer (some ⟨C, 0, none⟩), .int .u32 (a : Int)] w (Dfs C F P R fs a d W w) := by
  have H := Lib.hid (dfs_any C F P R fs hok (cnt d fs.length) a d W w ha (Nat.le_refl _) hs)
  clear hs hok
  go_enter Try.func8, Try.ntmps8
  go_wp2_with (go_at_call 11; refine H.out.mono ?_; rintro e w1 ⟨rfl, hd⟩; have HD := Lib.hid hd; clear hd)
  go_end0
  exact ⟨rfl, HD.out⟩
def d0 (fs : List Wf) (v : Nat) : Bool := (wf fs v).dw
def W0 (fs : List Wf) (v : Nat) : Int := (wf fs v).wr
theorem Bq.st {w wx wy : World} {Q F C : Nat} {P R : Nat → Nat} {fs : List Wf} (h : Bq w wx Q F fs.length fs.length P R fs) (hg : wx.grownBy wy none) (hc : ∃ cs, Blk wy C 188 cs ∧ cs[10]? = some (.slice (some ⟨F, 0, none⟩) fs.length fs.length)) : St wy C F P R fs (d0 fs) (W0 fs) := by
  obtain ⟨cs, k1, k2, k3⟩ := h.f
  refine ⟨hc, ⟨cs, k1.gb hg (by simp), k3⟩, fun v hv => ?_, fun v hv => ?_, fun u v hu hv => h.inj u v hu hv⟩
  · obtain ⟨ds, q1, q2⟩ := (h.o v hv).rr
    exact ⟨ds, q1.gb hg (by simp), q2⟩
  · obtain ⟨ds, q1, q2⟩ := (h.o v hv).pp
    exact ⟨ds, q1.gb hg (by simp), q2⟩
/-- the row of reprs -/
def Qr (w : World) (Q : Nat) (P : Nat → Nat) (n : Nat) : Prop := ∃ qs, Blk w Q 82 qs ∧ ∀ v, v < n → qs[v]? = some (.pointer (some ⟨P v, 0, none⟩))
theorem Qr.ext {w w' : World} {Q C F : Nat} {P R : Nat → Nat} {fs : List Wf} {d : Nat → Bool} {W : Nat → Int} (h : Qr w Q P fs.length) (hs : St w C F P R fs d W) (he : Ext P fs.length w w') : Qr w' Q P fs.length := by
  obtain ⟨qs, h1, h2⟩ := h
  refine ⟨qs, (he.block Q h1.lt (fun v hv => ?_)).trans h1, h2⟩
  obtain ⟨cs, k1, _⟩ := hs.p v hv
  exact blk_ne h1 k1 (by decide)
theorem Qr.below {w w' : World} {Q n : Nat} {P : Nat → Nat} (h : Qr w Q P n) (hb : Below w.heap.size w w') : Qr w' Q P n := by
  obtain ⟨qs, h1, h2⟩ := h
  exact ⟨qs, h1.kept hb, h2⟩
/-- what the last loop reads of a graph -/
structure Rd (w : World) (Q : Nat) (P : Nat → Nat) (n : Nat) (d : Nat → Bool) (W : Nat → Int) : Prop where
  q : Qr w Q P n
  p : ∀ v, v < n → ∃ cs, Blk w (P v) 81 cs ∧ cs[11]? = some (.int .u8 (W v)) ∧ cs[15]? = some (.bool (d v))
theorem Rd.below {w w' : World} {Q n : Nat} {P : Nat → Nat} {d : Nat → Bool} {W : Nat → Int} (h : Rd w Q P n d W) (hb : Below w.heap.size w w') : Rd w' Q P n d W := by
  refine ⟨h.q.below hb, fun v hv => ?_⟩
  obtain ⟨cs, h1, h2⟩ := h.p v hv
  exact ⟨cs, h1.kept hb, h2⟩
theorem St.rd {w : World} {Q C F : Nat} {P R : Nat → Nat} {fs : List Wf} {d : Nat → Bool} {W : Nat → Int} (h : St w C F P R fs d W) (hq : Qr w Q P fs.length) : Rd w Q P fs.length d W :=
  ⟨hq, fun v hv => by obtain ⟨cs, q1, q2, q3, q4, q5, q6⟩ := h.p v hv; exact ⟨cs, q1, q4, q5⟩⟩
theorem Rd.cell {w : World} {Q n : Nat} {P : Nat → Nat} {d : Nat → Bool} {W : Nat → Int} (h : Rd w Q P n d W) {v : Nat} (hv : v < n) : w.cell? ⟨Q, v, none⟩ = some (.pointer (some ⟨P v, 0, none⟩)) ∧ w.cell? ⟨P v, 15, none⟩ = some (.bool (d v)) ∧ w.cell? ⟨P v, 11, none⟩ = some (.int .u8 (W v)) ∧ Q < w.heap.size ∧ P v < w.heap.size := by
  obtain ⟨qs, h1, h2⟩ := h.q
  obtain ⟨cs, k1, k2, k3⟩ := h.p v hv
  exact ⟨(h1.cell v).trans (h2 v hv), (k1.cell 15).trans k3, (k1.cell 11).trans k2, h1.lt, k1.lt⟩
set_option maxHeartbeats 8000000 in
set_option maxRecDepth 100000 in
theorem law_any (ao : Option Addr) (n cap : Nat) (fs : List Wf) (hn : fs.length = n) (hokz : ∀ i, i < fs.length → Okz (wf fs i)) (a b : Int) (ha0 : 0 ≤ a) (hb0 : 0 ≤ b) (w : World) (hin : Fz w ao fs) :
    Calls Try.prog 3 #[.slice ao n cap, .int .u32 a, .int .u32 b] w fun e w' => e = .returned (.bool true) ∧ Below w.heap.size w w' := by
  have HI := Lib.hid (And.intro hin (And.intro hokz hn))
  clear hin hokz hn
  have HZB := Lib.hid (zb_any ao n cap fs HI.out.2.2 a b HI.out.2.1 w HI.out.1)
  go_enter Try.func3, Try.ntmps3
  go_upto_if 19 with (go_at_call 4; refine HZB.out.mono ?_; rintro e w2 ⟨⟨bb, rfl, hb⟩, rfl⟩; have HB := Lib.hid hb; clear hb)
  cases bb
  · go_wp2_with fail
    go_ret
    exact ⟨rfl, Below.refl _ _⟩
  have HFT := Lib.hid (fit_any ao n cap fs HI.out.2.2 HI.out.2.1 (HB.out rfl) w2 HI.out.1)
  go_upto_if 22 with (go_at_call 5; refine HFT.out.mono ?_; rintro e w3 ⟨⟨bb, rfl, hb⟩, rfl⟩; have HC := Lib.hid hb; clear hb)
  cases bb
  · go_wp2_with fail
    go_ret
    exact ⟨rfl, Below.refl _ _⟩
  obtain ⟨wo, rfl⟩ : ∃ wo : World, wo = w3 := ⟨_, rfl⟩
  have HOK : Hid (OkE fs) := Lib.hid (HC.out rfl)
  have hn4 : n ≤ 4096 := by have := HOK.out.1; rw [HI.out.2.2] at this; exact this
  clear HZB HB HFT HC
  have wn : IntKind.u32.wrap (n : Int) = (n : Int) := u32_small n (by omega)
  obtain ⟨x, rfl⟩ : ∃ x : Nat, a = (x : Int) := ⟨a.toNat, by omega⟩
  obtain ⟨y, rfl⟩ : ∃ y : Nat, b = (y : Int) := ⟨b.toNat, by omega⟩
  by_cases han : n ≤ x
  · have e1 : decide (n ≤ x) = true := by simp [han]
    go_wp2_with fail
    go_ret
    exact ⟨rfl, Below.refl _ _⟩
  have e1 : decide (n ≤ x) = false := by simp; omega
  by_cases hbn : n ≤ y
  · have e2 : decide (n ≤ y) = true := by simp [hbn]
    go_wp2_with fail
    go_ret
    exact ⟨rfl, Below.refl _ _⟩
  have e2 : decide (n ≤ y) = false := by simp; omega
  have HX : Hid (x < fs.length ∧ y < fs.length) := Lib.hid (by rw [HI.out.2.2]; exact ⟨by omega, by omega⟩)
  clear han hbn ha0 hb0
  go_upto_region 8 with fail
  clear e1 e2 wn
  have HBW := Lib.hid (bw_any ao n cap fs HI.out.2.2 HOK.out HI.out.2.1 wo HI.out.1)
  go_upto_region 9 with (go_at_call 6; refine HBW.out.mono ?_; rintro e w1 ⟨Q, F, P, R, rfl, hq⟩; have H1 := Lib.hid hq; clear hq)
  clear HBW
  have HNL := Lib.hid (nl_any (some ⟨F, 0, none⟩) n w1)
  go_upto_region 10 with (go_at_call 7; refine HNL.out.mono ?_; rintro e w2 ⟨C, rfl, _, hc, hg⟩; have H2 := Lib.hid (And.intro hc hg); clear hc hg)
  clear HNL
  have HS2 : Hid (St w2 C F P R fs (d0 fs) (W0 fs) ∧ Qr w2 Q P fs.length ∧ Below wo.heap.size wo w2 ∧ ∀ v, v < fs.length → wo.heap.size ≤ P v) := Lib.hid (by
    have h := H1.out
    have hn := HI.out.2.2
    rw [← hn] at h
    obtain ⟨cs, c1, c2⟩ := H2.out.1
    obtain ⟨qs, q1, _, q3⟩ := h.q
    exact ⟨h.st H2.out.2 ⟨cs, c1, by rw [hn]; exact c2⟩, ⟨qs, q1.gb H2.out.2 (by simp), q3⟩, below_of (gb_trans h.g H2.out.2), fun v hv => (h.lo v hv).1⟩)
  clear H1 H2
  have HA := Lib.hid (zz_any C F P R fs HOK.out x (d0 fs) (W0 fs) w2 HX.out.1 HS2.out.1)
  go_upto_region 11 with (go_at_call 8; refine HA.out.mono ?_; rintro e w3 ⟨rfl, d1, W1, hs, hm, hu, hx⟩; have H3 := Lib.hid (And.intro hs (And.intro hm (And.intro hu hx))); clear hs hm hu hx)
  clear HA
  have HB := Lib.hid (zz_any C F P R fs HOK.out y d1 W1 w3 HX.out.2 H3.out.1)
  go_upto_region 12 with (go_at_call 8; refine HB.out.mono ?_; rintro e w4 ⟨rfl, d2, W2, hs, hm, hu, hx⟩; have H4 := Lib.hid (And.intro hs (And.intro hm (And.intro hu hx))); clear hs hm hu hx)
  clear HB
  have HS4 : Hid (Rd w4 Q P fs.length d2 W2 ∧ Below wo.heap.size wo w4 ∧ Mkd (EE fs) Z0 (d0 fs) x d1 ∧ Mkd (EE fs) Z0 d1 y d2 ∧ Upd Z0 (fW fs) (d0 fs) (W0 fs) d2 W2) := Lib.hid (by
    obtain ⟨a1, a2, a3, a4⟩ := HS2.out
    obtain ⟨b1, b2, b3, b4⟩ := H3.out
    obtain ⟨c1, c2, c3, c4⟩ := H4.out
    have k3 := b4.below (B := wo.heap.size) a3.size a4
    have k4 := c4.below (B := wo.heap.size) (Nat.le_trans a3.size b4.size) a4
    exact ⟨c1.rd ((a2.ext a1 b4).ext b1 c4), (a3.trans k3).trans k4, b2, c2, b3.trans c3⟩)
  clear HS2 H3 H4
  have HBW := Lib.hid (bw_any ao n cap fs HI.out.2.2 HOK.out HI.out.2.1 w4 (HI.out.1.kept HS4.out.2.1))
  go_upto_region 13 with (go_at_call 6; refine HBW.out.mono ?_; rintro e w5 ⟨Q2, F2, P2, R2, rfl, hq⟩; have H1 := Lib.hid hq; clear hq)
  clear HBW
  have HNL := Lib.hid (nl_any (some ⟨F2, 0, none⟩) n w5)
  go_upto_region 14 with (go_at_call 7; refine HNL.out.mono ?_; rintro e w6 ⟨C2, rfl, _, hc, hg⟩; have H2 := Lib.hid (And.intro hc hg); clear hc hg)
  clear HNL
  have HS6 : Hid (St w6 C2 F2 P2 R2 fs (d0 fs) (W0 fs) ∧ Qr w6 Q2 P2 fs.length ∧ Below w4.heap.size w4 w6 ∧ ∀ v, v < fs.length → w4.heap.size ≤ P2 v) := Lib.hid (by
    have h := H1.out
    have hn := HI.out.2.2
    rw [← hn] at h
    obtain ⟨cs, c1, c2⟩ := H2.out.1
    obtain ⟨qs, q1, _, q3⟩ := h.q
    exact ⟨h.st H2.out.2 ⟨cs, c1, by rw [hn]; exact c2⟩, ⟨qs, q1.gb H2.out.2 (by simp), q3⟩, below_of (gb_trans h.g H2.out.2), fun v hv => (h.lo v hv).1⟩)
  clear H1 H2
  have HA := Lib.hid (zz_any C2 F2 P2 R2 fs HOK.out y (d0 fs) (W0 fs) w6 HX.out.2 HS6.out.1)
  go_upto_region 15 with (go_at_call 8; refine HA.out.mono ?_; rintro e w7 ⟨rfl, d3, W3, hs, hm, hu, hx⟩; have H3 := Lib.hid (And.intro hs (And.intro hm (And.intro hu hx))); clear hs hm hu hx)
  clear HA
  have HB := Lib.hid (zz_any C2 F2 P2 R2 fs HOK.out x d3 W3 w7 HX.out.1 H3.out.1)
  go_upto_region 16 with (go_at_call 8; refine HB.out.mono ?_; rintro e w8 ⟨rfl, d4, W4, hs, hm, hu, hx⟩; have H4 := Lib.hid (And.intro hs (And.intro hm (And.intro hu hx))); clear hs hm hu hx)
  clear HB
  have HS8 : Hid (Rd w8 Q P fs.length d2 W2 ∧ Rd w8 Q2 P2 fs.length d2 W2 ∧ Below wo.heap.size wo w8) := Lib.hid (by
    obtain ⟨a1, a2, a3, a4⟩ := HS6.out
    obtain ⟨b1, b2, b3, b4⟩ := H3.out
    obtain ⟨c1, c2, c3, c4⟩ := H4.out
    obtain ⟨e1, e2, e3, e4, e5⟩ := HS4.out
    have k3 := b4.below (B := w4.heap.size) a3.size a4
    have k4 := c4.below (B := w4.heap.size) (Nat.le_trans a3.size b4.size) a4
    have k8 := (a3.trans k3).trans k4
    have hd : ∀ v, d2 v = d4 v := Mkd.swap e3 e4 b2 c2
    have hW : ∀ v, W2 v = W4 v := Upd.same e5 (b3.trans c3) hd
    have r2 := c1.rd ((a2.ext a1 b4).ext b1 c4)
    rw [show d4 = d2 from funext (fun v => (hd v).symm), show W4 = W2 from funext (fun v => (hW v).symm)] at r2
    exact ⟨e1.below k8, r2, e2.trans (k8.mono e2.size)⟩)
  clear HS4 HS6 H3 H4
  go_wp2_with fail
  go_loopg [14] n (fun k z wx => ∃ v : Nat, z = .int .i64 (v : Int) ∧ v ≤ n ∧ n - v ≤ k ∧ Hid (w8.grownBy wx none))
  case atStart => exact ⟨0, rfl, by omega, by omega, Lib.hid (gb_refl _ _)⟩
  case round =>
    obtain ⟨v, rfl, hv, hk, HG⟩ := hrel
    obtain ⟨wz, rfl⟩ : ∃ wz : World, wz = wr := ⟨_, rfl⟩
    rcases (show n = v ∨ v < n by omega) with he | hlt
    · obtain rfl := he
      go_wp2_with fail
      go_ret
      exact ⟨rfl, HS8.out.2.2.trans ((below_of HG.out).mono HS8.out.2.2.size)⟩
    · obtain ⟨c1, c2, c3, l1, l2⟩ := (HS8.out.1.below (below_of HG.out)).cell (v := v) (by rw [HI.out.2.2]; exact hlt)
      obtain ⟨g1, g2, g3, m1, m2⟩ := (HS8.out.2.1.below (below_of HG.out)).cell (v := v) (by rw [HI.out.2.2]; exact hlt)
      obtain ⟨q, hq⟩ : ∃ q, W2 v = q := ⟨_, rfl⟩
      rw [hq] at c3 g3
      have hqq : decide (q = q) = true := by simp
      obtain ⟨bb, hbb⟩ : ∃ bb, d2 v = bb := ⟨_, rfl⟩
      rw [hbb] at c2 g2
      clear hq hbb
      go_upto_region 19 with fail
      cases bb
      all_goals
        go_quiet (fail)
        go_wp2_with fail
        go_roundg (gk - 1)
        case measure => omega
        case rel => exact ⟨v + 1, by go_num, by omega, by omega, Lib.hid (gb_trans HG.out (gb_drewN _ _))⟩
end Go.Proofs.Ytlfkdmncdafkiaa
