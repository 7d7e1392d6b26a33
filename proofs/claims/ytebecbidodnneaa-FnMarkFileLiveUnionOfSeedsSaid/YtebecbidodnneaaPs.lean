/-
  markPartLiveForTreeShaking: one part, not marked yet. No statement of the seat is proved here.
-/
import Derived.Test.YtebecbidodnneaaDf
namespace Go.Proofs.Ytebecbidodnneaa
open Go.RowKit
set_option linter.unusedVariables false
set_option linter.unusedSimpArgs false

set_option maxHeartbeats 8000000 in
set_option maxRecDepth 100000 in
theorem p_step (C O F : Nat) (P R T : Nat → Nat) (fs : List Wf) (ig : Bool) (hok : OkE fs) (K : Nat) (ih : IHs C O F P R T fs ig K) (a b : Nat) (ha : a < fs.length) (hb : b < (wf fs a).ps.length) (d : Nat → Bool) (hd : d (cp a b) = false)
    (hk : cnt d (fs.length * MM) ≤ K + 1) (w : World) (hs : St w C O F P R T fs ig d) :
    Calls Try.prog 20 #[.pointer (some ⟨C, 0, none⟩), .int .u32 (a : Int), .int .u32 (b : Int)] w (DfsE C O F P R T fs ig (cp a b) d w) := by
  obtain ⟨c1, l1, c2, l2, _⟩ := hs.fcell ha
  obtain ⟨p1, _, _, lp⟩ := hs.pcell ha
  obtain ⟨ib, db, ht, _, lt, ft⟩ := hs.tcell ha hb
  have t10 : w.cell? ⟨T a, b * 11 + 10, none⟩ = some (.bool (d (cp a b))) := ht 10 (by omega)
  have f10 := ft (b * 11 + 10)
  rw [hd] at t10
  have HB := Lib.hid (And.intro ha hb)
  have HBL : Hid (b < 2097151) := Lib.hid (by have := hok.pl a ha; omega)
  have H1 : Hid (St (w.setCell ⟨T a, b * 11 + 10, none⟩ (.bool true)) C O F P R T fs ig (fun x => d x || x == cp a b) ∧ Ext F T fs.length w (w.setCell ⟨T a, b * 11 + 10, none⟩ (.bool true))) := Lib.hid ⟨hs.markT hok ha hb, Ext.of_t ha (gb_set (gb_refl _ _) _ _ _)⟩
  have HD := Lib.hid hd
  have HK := Lib.hid hk
  have HIH := Lib.hid ih
  have HOK := Lib.hid hok
  obtain ⟨n, hn⟩ : ∃ n, fs.length = n := ⟨_, rfl⟩
  rw [hn] at c1
  have ha' : a < n := by omega
  obtain ⟨m0, hm0⟩ : ∃ m, (wf fs a).ps.length = m := ⟨_, rfl⟩
  rw [hm0] at p1
  have hb' : b < m0 := by omega
  have hta := ta123 (P a) w
  have h4 : a < 4294967296 := by have := hok.n; omega
  have h5 : b < 4294967296 := by have := hok.pl a ha; omega
  clear hs hd hok ha hb hn hm0 ht hk ih ft
  go_enter Try.func20, Try.ntmps20
  go_upto_region 5 with fail
  clear c1 l1 c2 l2 p1 lp lt t10 f10 hta
  generalize w.setCell ⟨T a, b * 11 + 10, none⟩ (.bool true) = w1 at H1 ⊢
  obtain ⟨d1, hd1⟩ : ∃ d1, (fun x => d x || x == cp a b) = d1 := ⟨_, rfl⟩
  rw [hd1] at H1
  have HCN : Hid (∀ d' : Nat → Bool, (∀ v, d1 v = true → d' v = true) → cnt d' (fs.length * MM) ≤ K) := Lib.hid (fun d' hm => cnt_of HD.out (cp_lt HB.out.1 HBL.out) HK.out (fun v hv => hm v (by rw [← hd1]; exact hv)))
  have HD1 := Lib.hid hd1
  clear hd1
  have HC := Lib.hid (HIH.out.f a d1 w1 HB.out.1 (HCN.out d1 (fun v h => h)) H1.out.1)
  go_upto_region 6 with (go_at_call 15; refine HC.out.mono ?_; rintro e w2 ⟨rfl, d2, x1, x2, x3⟩; have H2 := Lib.hid (And.intro x1 (And.intro x2 x3)); clear x1 x2 x3)
  obtain ⟨p, hp⟩ : ∃ p, pt (wf fs a).ps b = p := ⟨_, rfl⟩
  have H3 : Hid (Lp C O F P R T fs ig (nbD p.dz a 0) d1 w w2 d2) := Lib.hid ⟨H2.out.1, Mks.nil.snoc H2.out.2.1, H1.out.2.trans H2.out.2.2⟩
  obtain ⟨ib2, db2, ht, hdr, lt, _⟩ := H2.out.1.tcell HB.out.1 HB.out.2
  rw [hp] at ht hdr
  have HP := Lib.hid hp
  obtain ⟨m, hm⟩ : ∃ m, p.dz.length = m := ⟨_, rfl⟩
  have t7 : w2.cell? ⟨T a, b * 11 + 7, none⟩ = some (.slice (some ⟨db2, 0, none⟩) m m) := by rw [← hm]; exact ht 7 (by omega)
  have hm20 : m ≤ 1048576 := by rw [← hm, ← hp]; exact (HOK.out.zl a HB.out.1 b HB.out.2).2
  have HM := Lib.hid hm
  have HDR := Lib.hid hdr
  clear ht hdr hp hm HC H2
  go_wp2_with fail
  clear t7 lt
  go_loopg [46] m (fun g x wx => ∃ k : Nat, x = .int .i64 (k : Int) ∧ k ≤ m ∧ m - k ≤ g ∧ Hid ((∃ d', Lp C O F P R T fs ig (nbD p.dz a k) d1 w wx d') ∧ DRow wx ib2 db2 p))
  case atStart => exact ⟨0, rfl, by omega, by omega, Lib.hid ⟨⟨_, H3.out⟩, HDR.out⟩⟩
  case round =>
    obtain ⟨k, rfl, hk, hg, HL⟩ := hrel
    obtain ⟨wz, rfl⟩ : ∃ wz : World, wz = wr := ⟨_, rfl⟩
    rcases (show m = k ∨ k < m by omega) with he | hlt
    · obtain rfl := he
      go_wp2_with fail
      obtain ⟨⟨d', hl⟩, _⟩ := HL.out
      go_end0
      have hm := hl.mks
      rw [← HD1.out] at hm
      refine ⟨rfl, d', hl.st, Mks.close HD.out (fun h => h) (fun c => ?_) hm, hl.ex⟩
      have h := EE_p fs ig a b c HBL.out
      rw [HP.out, HM.out] at h
      exact h
    · obtain ⟨⟨d', hl⟩, hdr⟩ := HL.out
      obtain ⟨_, ⟨ds, q1, q2⟩⟩ := id hdr
      obtain ⟨q3, q4⟩ := q2 k (by rw [HM.out]; exact hlt)
      have g0 := (q1.cell (k * 2)).trans q3
      have g1 := (q1.cell (k * 2 + 1)).trans q4
      have lq := q1.lt
      have hdz := HOK.out.dz a HB.out.1 b HB.out.2 k (by rw [HP.out, HM.out]; exact hlt)
      rw [HP.out] at hdz
      have HLL := Lib.hid (And.intro hl hdr)
      obtain ⟨c, hc⟩ : ∃ c : Nat, (dp p.dz k).1 = (c : Int) := ⟨(dp p.dz k).1.toNat, by omega⟩
      obtain ⟨e, he⟩ : ∃ e : Nat, (dp p.dz k).2 = (e : Int) := ⟨(dp p.dz k).2.toNat, by omega⟩
      rw [hc] at hdz g0
      rw [he] at hdz g1
      have HCE : Hid (c < fs.length ∧ e < (wf fs c).ps.length ∧ nbD p.dz a (k + 1) = nbD p.dz a k ++ [cp c e]) := Lib.hid ⟨by omega, by have := hdz.2.2.2; simp at this; exact this, by
        show nbD p.dz a k ++ [cp (dp p.dz k).1.toNat (dp p.dz k).2.toNat] = _
        rw [hc, he]; rfl⟩
      clear hl hdr q1 q2 q3 q4 hdz hc he
      obtain ⟨Q, hQ⟩ : ∃ Q, wz.heap.size = Q := ⟨_, rfl⟩
      go_upto_region 9 with fail
      clear g0 g1 lq
      have H4 : Hid (wz.grownBy (wz.alloc (.cells #[.int .u32 (c : Int), .int .u32 (e : Int)] 141)) none ∧ Blk (wz.alloc (.cells #[.int .u32 (c : Int), .int .u32 (e : Int)] 141)) Q 141 #[.int .u32 (c : Int), .int .u32 (e : Int)]) := Lib.hid (by
        refine ⟨gb_alloc (gb_refl _ _) _, ?_⟩
        have := Blk.new wz 141 #[.int .u32 (c : Int), .int .u32 (e : Int)]
        rwa [hQ] at this)
      clear hQ
      generalize wz.alloc (.cells #[.int .u32 (c : Int), .int .u32 (e : Int)] 141) = w3 at H4 ⊢
      have q0 : w3.cell? ⟨Q, 0, none⟩ = some (.int .u32 (c : Int)) := H4.out.2.cell 0
      have q1 : w3.cell? ⟨Q, 1, none⟩ = some (.int .u32 (e : Int)) := H4.out.2.cell 1
      have lQ := H4.out.2.lt
      have H5 := Lib.hid (And.intro (HLL.out.1.gb H4.out.1) (HLL.out.2.gb H4.out.1 (by simp) (by simp)))
      have HC := Lib.hid (HIH.out.p c e d' w3 HCE.out.1 HCE.out.2.1 (HCN.out d' HLL.out.1.mks.mono) H5.out.1.st)
      go_wp2_with (go_at_call 20; refine HC.out.mono ?_; rintro e8 w4 ⟨rfl, d4, x1, x2, x3⟩; have H6 := Lib.hid (And.intro x1 (And.intro x2 x3)); clear x1 x2 x3)
      go_roundg (gk - 1)
      case measure => omega
      case rel => exact ⟨k + 1, by go_num, by omega, by omega, Lib.hid ⟨⟨d4, by rw [HCE.out.2.2]; exact H5.out.1.call H6.out.1 H6.out.2.1 H6.out.2.2⟩, H5.out.2.ext H5.out.1.st H6.out.2.2⟩⟩
end Go.Proofs.Ytebecbidodnneaa
