/-
  wrapRulesWithConditions, walked. No statement of the seat is proved here.
-/
import Derived.Test.YtgkekeojdiofnaaIc
namespace Go.Proofs.Ytgkekeojdiofnaa
open Go.RowKit
set_option linter.unusedVariables false
set_option linter.unusedSimpArgs false

/-- the state behind the conditions from j on -/
def sj (cs : List Cz) (s : Ns) (j : Nat) : Ns := conds ((cds cs).drop j) s
theorem sj_all (cs : List Cz) (s : Ns) : sj cs s cs.length = s := by unfold sj; rw [List.drop_of_length_le (by simp [cds])]; rfl
theorem sj_zero (cs : List Cz) (s : Ns) : sj cs s 0 = conds (cds cs) s := rfl
theorem sj_at (cs : List Cz) (s : Ns) (i : Nat) (h : i < cs.length) : sj cs s i = cond (cd (cz cs i)) (sj cs s (i + 1)) := conds_last _ _ _ (cds_at cs i h) s
theorem blk3 {w : World} {b i : Nat} {t : TypeId} {cs : Array Value} {u : Value} (h : Blk w b t cs) (hu : cs[i]? = some u) : w.cell? ⟨b, i, none⟩ = some u := (h.cell i).trans hu
theorem layer_empty {s : Ns} {t : Bool} (h : s.empty = true) (ht : t = false) : layer t s = s := by unfold layer; rw [if_pos ⟨h, ht⟩]
theorem layer_full {s : Ns} {t : Bool} (h : s.empty = false ∨ t = true) : layer t s = ⟨true :: s.ch, s.m⟩ := by
  unfold layer
  rw [if_neg]
  rintro ⟨h1, h2⟩
  rcases h with h | h
  · rw [h] at h1; cases h1
  · rw [h] at h2; cases h2
theorem take_getD (l : List Bool) (q : Nat) (h : q < l.length) : l.take (q + 1) = l.take q ++ [l.getD q false] := by
  rw [List.take_succ_eq_append_getElem h]; simp [h]
/-- the state behind q layers -/
def lq (z : Cz) (s : Ns) (q : Nat) : Ns := layers (z.ls.take q) s
theorem lq_next (z : Cz) (s : Ns) (q : Nat) (h : q < z.ls.length) : lq z s (q + 1) = layer (z.ls.getD q false) (lq z s q) := by unfold lq; rw [take_getD _ _ h, layers_snoc]
theorem tk_cells {w : World} {b j : Nat} {cs : Array Value} {c : Value} {s : ByteArray} {k : Int} (hb : Blk w b 55 cs) (h : ∀ i, i < 7 → cs[j * 7 + i]? = (tkC c s k)[i]?) :
    w.cell? ⟨b, j * 7, none⟩ = some c ∧ w.cell? ⟨b, j * 7 + 1, none⟩ = some (.string s) ∧ w.cell? ⟨b, j * 7 + 2, none⟩ = some (.int .i32 0) ∧ w.cell? ⟨b, j * 7 + 3, none⟩ = some (.int .u32 0) ∧ w.cell? ⟨b, j * 7 + 4, none⟩ = some (.int .u16 0) ∧ w.cell? ⟨b, j * 7 + 5, none⟩ = some (.int .u8 k) ∧ w.cell? ⟨b, j * 7 + 6, none⟩ = some (.int .u8 0) :=
  ⟨(hb.cell _).trans (h 0 (by omega)), (hb.cell _).trans (h 1 (by omega)), (hb.cell _).trans (h 2 (by omega)), (hb.cell _).trans (h 3 (by omega)), (hb.cell _).trans (h 4 (by omega)), (hb.cell _).trans (h 5 (by omega)), (hb.cell _).trans (h 6 (by omega))⟩
set_option maxHeartbeats 8000000 in
set_option maxRecDepth 100000 in
theorem wp_any (s : Ns) (v : Value) (b n cap : Nat) (cs : List Cz) (hn : cs.length = n) (hn4 : n ≤ 4096) (hl : ∀ i, i < cs.length → (cz cs i).ls.length ≤ maxLen) (hk : ∀ i, i < cs.length → (cz cs i).sn.toNat ≤ maxLen) (w : World) (hs : NS w s v) (hi : Ic w b cs) :
    Calls Try.prog 11 #[v, .slice none 0 0, .slice (some ⟨b, 0, none⟩) n cap, .slice none 0 0] w fun e w' => ∃ v', e = .returned (.tuple #[v', .slice none 0 0]) ∧ NS w' (conds (cds cs) s) v' ∧ w.grownBy w' none := by
  obtain ⟨a0, l0, c0, rfl, hl0, he0, he1⟩ := hs.form
  have HI := Lib.hid (And.intro hi (And.intro hn (And.intro hl (And.intro hk hs))))
  clear hi hn hl hk hs he0 he1
  have HCT := Lib.hid (fun ao cap w => ct0_any ao cap w)
  have HC1 := Lib.hid (fun b w h => ct1_any b w h)
  go_enter Try.func11, Try.ntmps11
  go_wp2_with fail
  go_loopg [0, 1, 10] n (fun k x y z wx => y = .slice none 0 0 ∧ ∃ j : Nat, z = .int .i64 ((j : Int) - 1) ∧ j ≤ n ∧ j ≤ k ∧ ∃ a l c, x = .slice a l c ∧ l ≤ maxLen ∧ Hid (NS wx (sj cs s j) (.slice a l c) ∧ w.grownBy wx none))
  case atStart => exact ⟨rfl, n, by go_num, Nat.le_refl _, Nat.le_refl _, _, _, _, rfl, hl0, Lib.hid ⟨by rw [← HI.out.2.1, sj_all]; exact HI.out.2.2.2.2, gb_refl _ _⟩⟩
  case round =>
    obtain ⟨rfl, j, rfl, hj, hjk, a, l, c, rfl, hl, HB⟩ := hrel
    obtain ⟨wz, rfl⟩ : ∃ wz : World, wz = wr := ⟨_, rfl⟩
    obtain ⟨gO, rfl⟩ : ∃ gO, gO = gk := ⟨_, rfl⟩
    rcases j with _ | i
    · rw [show ((0 : Nat) : Int) - 1 = -1 by rfl]
      go_wp2_with fail
      go_ret2
      exact ⟨_, rfl, HB.out.1, HB.out.2⟩
    · rw [show ((i + 1 : Nat) : Int) - 1 = (i : Int) by omega]
      obtain ⟨ds, hd1, hd2⟩ := HI.out.1.grow HB.out.2
      have hco := hd2 i (by rw [HI.out.2.1]; omega)
      obtain ⟨lv, q1, hlv⟩ := hco.l
      obtain ⟨sv, q2, hsv⟩ := hco.s
      have p0 := blk3 hd1 hco.q
      have p1 := blk3 hd1 q1
      have p2 := blk3 hd1 q2
      obtain ⟨lb, lcs, rfl, hlb, hlc⟩ := hlv
      obtain ⟨sb, scs, rfl, hsb, hsc⟩ := hsv
      obtain ⟨m, hm⟩ : ∃ m, (cz cs i).ls.length = m := ⟨_, rfl⟩
      obtain ⟨k, hk⟩ : ∃ k, (cz cs i).sn.toNat = k := ⟨_, rfl⟩
      rw [hm] at p1
      rw [hk] at p2
      have HLB := Lib.hid (And.intro hlb (And.intro hlc hm))
      have HSB := Lib.hid (And.intro hsb (And.intro hsc hk))
      have hmm : m ≤ maxLen := by rw [← hm]; exact HI.out.2.2.1 i (by rw [HI.out.2.1]; omega)
      have hkm : k ≤ maxLen := by rw [← hk]; exact HI.out.2.2.2.1 i (by rw [HI.out.2.1]; omega)
      unfold maxLen at hmm hkm
      have ld := hd1.lt
      clear hd2 hco q1 q2 hlb hlc hm hsb hsc hk hd1
      go_upto_region 5 with fail
      obtain ⟨E, hE⟩ : ∃ E, wz.heap.size = E := ⟨_, rfl⟩
      have hbe := Blk.new wz 58 #[.slice none 0 0, .slice (some ⟨lb, 0, none⟩) m m, .slice (some ⟨sb, 0, none⟩) k k]
      rw [hE] at hbe
      rw [hE]
      have HD : Hid (Blk (wz.alloc (.cells #[.slice none 0 0, .slice (some ⟨lb, 0, none⟩) m m, .slice (some ⟨sb, 0, none⟩) k k] 58)) E 58 #[.slice none 0 0, .slice (some ⟨lb, 0, none⟩) m m, .slice (some ⟨sb, 0, none⟩) k k] ∧ wz.grownBy (wz.alloc (.cells #[.slice none 0 0, .slice (some ⟨lb, 0, none⟩) m m, .slice (some ⟨sb, 0, none⟩) k k] 58)) none) := Lib.hid ⟨hbe, gb_alloc (gb_refl _ _) _⟩
      clear hE hbe p0 p1 p2 ld
      generalize wz.alloc (.cells #[.slice none 0 0, .slice (some ⟨lb, 0, none⟩) m m, .slice (some ⟨sb, 0, none⟩) k k] 58) = w1 at HD ⊢
      have e1 := blk3 HD.out.1 (i := 1) rfl
      have le := HD.out.1.lt
      go_wp2_with fail
      clear e1 le
      go_loopg [0, 1, 33] m (fun kk x y z wx => y = .slice none 0 0 ∧ ∃ q : Nat, z = .int .i64 (q : Int) ∧ q ≤ m ∧ m - q ≤ kk ∧ ∃ a l c, x = .slice a l c ∧ l ≤ maxLen ∧ Hid (NS wx (lq (cz cs i) (sj cs s (i + 1)) q) (.slice a l c) ∧ w1.grownBy wx none))
      case atStart => exact ⟨rfl, 0, rfl, by omega, by omega, _, _, _, rfl, hl, Lib.hid ⟨HB.out.1.grow HD.out.2, gb_refl _ _⟩⟩
      case round =>
        obtain ⟨rfl, q, rfl, hq, hqk, a, l, c, rfl, hl, HJ⟩ := hrel
        obtain ⟨wy, rfl⟩ : ∃ wy : World, wy = wr := ⟨_, rfl⟩
        rcases (show m = q ∨ q < m by omega) with he | hlt
        · obtain rfl := he
          have HL : Hid (NS wy (layers (cz cs i).ls (sj cs s (i + 1))) (.slice a l c) ∧ w.grownBy wy none) := Lib.hid (by
            have h := HJ.out.1
            unfold lq at h
            rw [List.take_of_length_le (by rw [HLB.out.2.2]; exact Nat.le_refl _)] at h
            exact ⟨h, gb_trans (gb_trans HB.out.2 HD.out.2) HJ.out.2⟩)
          obtain ⟨S2, hS2⟩ : ∃ S2, layers (cz cs i).ls (sj cs s (i + 1)) = S2 := ⟨_, rfl⟩
          rw [hS2] at HL
          have HJE : Hid ((S2.empty = true → sj cs s i = S2) ∧ (S2.empty = false → sj cs s i = sups (cz cs i).sn.toNat S2)) := Lib.hid (by
            have h := sj_at cs s i (by rw [HI.out.2.1]; omega)
            unfold cond cd at h
            simp only [hS2] at h
            refine ⟨fun e => ?_, fun e => ?_⟩
            · rw [h, if_pos e]
            · rw [h, if_neg (by rw [e]; decide)])
          have hde := HD.out.1.gb HJ.out.2 (by simp)
          have d0 := blk3 hde (i := 0) rfl
          have d2 := blk3 hde (i := 2) rfl
          have ldE := hde.lt
          have HDE := Lib.hid hde
          have HGY : Hid (wz.grownBy wy none) := Lib.hid (gb_trans HD.out.2 HJ.out.2)
          have HNF := Lib.hid HL.out.1.form
          clear hS2 HJ hde
          rcases (show l = 0 ∨ 0 < l by omega) with hl0 | hl0
          · subst hl0
            go_wp2_with fail
            have HEM : Hid (S2.empty = true) := Lib.hid (by obtain ⟨a', l', c', h1, _, h3, _⟩ := HNF.out; cases h1; exact h3 rfl)
            go_roundg (gO - 1)
            case measure => omega
            case rel => exact ⟨rfl, i, rfl, by omega, by omega, _, _, _, rfl, hl, Lib.hid ⟨by rw [HJE.out.1 HEM.out]; exact HL.out.1, HL.out.2⟩⟩
          · have dl : decide ((0 : Int) < (l : Int)) = true := by simp; omega
            have HEM : Hid (S2.empty = false) := Lib.hid (by obtain ⟨a', l', c', h1, _, _, h4⟩ := HNF.out; cases h1; exact h4 hl0)
            go_wp2_with fail
            go_loopg [0, 1, 71] k (fun kk x y z wx => y = .slice none 0 0 ∧ ∃ q : Nat, z = .int .i64 (q : Int) ∧ q ≤ k ∧ k - q ≤ kk ∧ ∃ a l c, x = .slice a l c ∧ 0 < l ∧ l ≤ maxLen ∧ Hid (NS wx (sups q S2) (.slice a l c) ∧ wy.grownBy wx none))
            case atStart => exact ⟨rfl, 0, rfl, by omega, by omega, _, _, _, rfl, hl0, hl, Lib.hid ⟨HL.out.1, gb_refl _ _⟩⟩
            case round =>
              obtain ⟨rfl, q, rfl, hq, hqk, a, l, c, rfl, hl0, hl, HJ⟩ := hrel
              obtain ⟨wv, rfl⟩ : ∃ wv : World, wv = wr := ⟨_, rfl⟩
              rcases (show k = q ∨ q < k by omega) with he | hlt
              · obtain rfl := he
                have hde := HDE.out.gb HJ.out.2 (by simp)
                have d0 := blk3 hde (i := 0) rfl
                have ldE := hde.lt
                have dl : decide ((0 : Int) < (l : Int)) = true := by simp; omega
                go_wp2_with fail
                go_roundg (gO - 1)
                case measure => omega
                case rel => exact ⟨rfl, i, rfl, by omega, by omega, _, _, _, rfl, hl, Lib.hid ⟨by rw [HJE.out.2 HEM.out, HSB.out.2.2]; exact HJ.out.1, gb_trans HL.out.2 HJ.out.2⟩⟩
              · have hgz := gb_trans HGY.out HJ.out.2
                have hsb := HSB.out.1.gb hgz (by simp)
                obtain ⟨c0, c1, c2, c3, c4, c5, c6⟩ := tk_cells hsb (HSB.out.2.1 q (by rw [HSB.out.2.2]; exact hlt))
                have lsb := hsb.lt
                clear hsb hgz d0 d2 ldE dl
                go_upto_region 21 with fail
                obtain ⟨T, hT⟩ : ∃ T, wv.heap.size = T := ⟨_, rfl⟩
                have hbt := Blk.new wv 55 (tkC (.pointer none) ⟨#[]⟩ 0)
                rw [hT] at hbt
                have HTK : Hid (wv.grownBy (wv.alloc (.cells (tkC (.pointer none) ⟨#[]⟩ 0) 55)) none ∧ wv.heap.size = T) := Lib.hid ⟨gb_alloc (gb_refl _ _) _, hT⟩
                rw [hT]
                clear hT c0 c1 c2 c3 c4 c5 c6 lsb
                change Code.wp _ _ _ _ (wv.alloc (.cells (tkC (.pointer none) ⟨#[]⟩ 0) 55))
                generalize wv.alloc (.cells (tkC (.pointer none) ⟨#[]⟩ 0) 55) = w2 at hbt HTK ⊢
                have f5 := hbt.free 5
                have k5 := blk3 hbt (i := 5) (show _ = some (.int .u8 0) from rfl)
                have l5 := hbt.lt
                have h3 : Blk (w2.setCell ⟨T, 5, none⟩ (.int .u8 33)) T 55 (tkC (.pointer none) ⟨#[]⟩ 33) := hbt.set 5 (.int .u8 33)
                have f1 := h3.free 1
                have k1 := blk3 h3 (i := 1) (show _ = some (.string ⟨#[]⟩) from rfl)
                have h4 : Blk ((w2.setCell ⟨T, 5, none⟩ (.int .u8 33)).setCell ⟨T, 1, none⟩ (.string ⟨#[40]⟩)) T 55 (tkC (.pointer none) ⟨#[40]⟩ 33) := h3.set 1 (.string ⟨#[40]⟩)
                have H4 := Lib.hid h4
                have HG4 : Hid (wv.grownBy ((w2.setCell ⟨T, 5, none⟩ (.int .u8 33)).setCell ⟨T, 1, none⟩ (.string ⟨#[40]⟩)) none) := Lib.hid (gb_new (gb_trans (gb_none HTK.out.1) (gb_set (gb_set (gb_refl _ _) _ _ _) _ _ _)) (by rw [HTK.out.2]; exact Nat.le_refl _))
                clear h3 h4 hbt
                go_upto_region 24 with fail
                clear f5 k5 l5 f1 k1
                generalize (w2.setCell ⟨T, 5, none⟩ (.int .u8 33)).setCell ⟨T, 1, none⟩ (.string ⟨#[40]⟩) = w3 at H4 HG4 ⊢
                have hb1 := H4.out
                have c0 := blk3 hb1 (i := 0) rfl
                have c1 := blk3 hb1 (i := 1) rfl
                have c2 := blk3 hb1 (i := 2) rfl
                have c3 := blk3 hb1 (i := 3) rfl
                have c4 := blk3 hb1 (i := 4) rfl
                have c5 := blk3 hb1 (i := 5) rfl
                have c6 := blk3 hb1 (i := 6) rfl
                have lt1 := hb1.lt
                have HCC := Lib.hid (HC1.out w3.heap.size (w3.alloc (.cells (tkC (.pointer none) ⟨#[40]⟩ 33) 55)) (Blk.new w3 55 (tkC (.pointer none) ⟨#[40]⟩ 33)))
                clear hb1
                go_upto_region 25 with (go_at_call 14; refine (HCC.out).mono ?_; rintro e w8 ⟨a1, l1, c1, rfl, hg8⟩; have HG8 := Lib.hid hg8; clear hg8)
                go_wp2_with (first
                  | (refine wpList_build rfl 65 _ rfl [(0, .string (nm false)), (1, .slice a1 l1 c1), (2, .slice a l c)] rfl _ (build65 _ _ _ _ _ _ _) ?_)
                  | (refine wpList_build rfl 46 _ rfl [(0, .iface 63 (.pointer (some ⟨w8.heap.size, 0, none⟩)))] rfl _ (build46p 63 w8.heap.size) ?_)
                  | (refine wpList_slice rfl 26 1 _ rfl [(0, .agg (ruC (.iface 63 (.pointer (some ⟨w8.heap.size, 0, none⟩)))))] rfl _ 46 (bs26 w8.heap.size) ?_))
                go_roundg (gk - 1)
                case measure => omega
                case rel =>
                  have hg := gb_trans HG4.out (gb_trans (gb_alloc (gb_refl w3 none) (.cells (tkC (.pointer none) ⟨#[40]⟩ 33) 55)) HG8.out)
                  have hw := NS.wrap (a1 := a1) (l1 := l1) (c1 := c1) false (HJ.out.1.grow hg)
                  refine ⟨rfl, q + 1, by go_num, by omega, by omega, _, _, _, rfl, by omega, by simp [maxLen], Lib.hid ⟨?_, gb_trans HJ.out.2 (gb_trans hg (gb_alloc (gb_alloc (gb_refl _ _) _) _))⟩⟩
                  rw [sups_succ]
                  simpa using hw
        · obtain ⟨cv, hpt, hcv⟩ := HLB.out.2.1 q (by rw [HLB.out.2.2]; exact hlt)
          obtain ⟨t, ht⟩ : ∃ t, (cz cs i).ls.getD q false = t := ⟨_, rfl⟩
          rw [ht] at hpt
          have hgy := gb_trans HD.out.2 HJ.out.2
          have hpt := hpt.grow hgy
          have hlby := HLB.out.1.gb hgy (by simp)
          obtain ⟨c0, c1, c2, c3, c4, c5, c6⟩ := tk_cells hlby hcv
          have llb := hlby.lt
          have HPT := Lib.hid (And.intro hpt ht)
          have HNF := Lib.hid HJ.out.1.form
          clear hcv hlby hgy ht
          rcases hpt with ⟨rfl, qp, xp, xc, rfl, _⟩ | ⟨rfl, rfl⟩
          · skip
            go_upto_region 8 with fail
            obtain ⟨T, hT⟩ : ∃ T, wy.heap.size = T := ⟨_, rfl⟩
            have hbt := Blk.new wy 55 (tkC (.pointer (some ⟨qp, 0, none⟩)) ⟨#[]⟩ 0)
            rw [hT] at hbt
            rw [hT]
            have HTK : Hid (wy.grownBy (wy.alloc (.cells (tkC (.pointer (some ⟨qp, 0, none⟩)) ⟨#[]⟩ 0) 55)) none) := Lib.hid (gb_alloc (gb_refl _ _) _)
            clear hT c0 c1 c2 c3 c4 c5 c6 llb
            change Code.wp _ _ _ _ (wy.alloc (.cells (tkC (.pointer (some ⟨qp, 0, none⟩)) ⟨#[]⟩ 0) 55))
            generalize wy.alloc (.cells (tkC (.pointer (some ⟨qp, 0, none⟩)) ⟨#[]⟩ 0) 55) = w2 at hbt HTK ⊢
            have d0 := blk3 hbt (i := 0) (show _ = some (.pointer (some ⟨qp, 0, none⟩)) from rfl)
            have lt := hbt.lt
            clear hbt
            obtain ⟨_, qp', xp', xc', hqe, hqb⟩ | ⟨hh, _⟩ := HPT.out.1
            rotate_left
            · cases hh
            cases hqe
            have dq := blk3 ((hqb.gb HTK.out (by simp))) (i := 0) rfl
            have lqp := (hqb.gb HTK.out (by simp)).lt
            clear hqb
            rcases (show l = 0 ∨ 0 < l by omega) with hl0 | hl0
            · subst hl0
              have HEM : Hid ((lq (cz cs i) (sj cs s (i + 1)) q).empty = true) := Lib.hid (by obtain ⟨a', l', c', h1, _, h3, _⟩ := HNF.out; cases h1; exact h3 rfl)
              have HNQ : Hid (NS wy (lq (cz cs i) (sj cs s (i + 1)) q) (.slice none 0 0)) := Lib.hid (NS.nil _ _ HEM.out)
              go_upto_region 15 with (go_at_call 14; refine (HCT.out _ _ _).mono ?_; rintro e w8 ⟨a1, l1, c1, rfl, hg8⟩; have HG8 := Lib.hid hg8; clear hg8)
              go_wp2_with (first
                | (refine wpList_build rfl 65 _ rfl [(0, .string (nm true)), (1, .slice a1 l1 c1), (2, .slice none 0 0)] rfl _ (build65 _ _ _ _ _ _ _) ?_)
                | (refine wpList_build rfl 46 _ rfl [(0, .iface 63 (.pointer (some ⟨w8.heap.size, 0, none⟩)))] rfl _ (build46p 63 w8.heap.size) ?_)
                | (refine wpList_slice rfl 26 1 _ rfl [(0, .agg (ruC (.iface 63 (.pointer (some ⟨w8.heap.size, 0, none⟩)))))] rfl _ 46 (bs26 w8.heap.size) ?_))
              go_roundg (gk - 1)
              case measure => omega
              case rel =>
                have hg := gb_trans HTK.out HG8.out
                have hw := NS.wrap (a1 := a1) (l1 := l1) (c1 := c1) true (HNQ.out.grow hg)
                refine ⟨rfl, q + 1, by go_num, by omega, by omega, _, _, _, rfl, by simp [maxLen], Lib.hid ⟨?_, gb_trans HJ.out.2 (gb_trans hg (gb_alloc (gb_alloc (gb_refl _ _) _) _))⟩⟩
                rw [lq_next _ _ _ (by rw [HLB.out.2.2]; exact hlt), HPT.out.2, layer_full (.inr rfl)]
                simpa using hw
            · have dl : (((l : Nat) : Int) == 0) = false := by simp; omega
              have HNQ : Hid (NS wy (lq (cz cs i) (sj cs s (i + 1)) q) (.slice a l c)) := Lib.hid (HJ.out.1)
              go_upto_region 15 with (go_at_call 14; refine (HCT.out _ _ _).mono ?_; rintro e w8 ⟨a1, l1, c1, rfl, hg8⟩; have HG8 := Lib.hid hg8; clear hg8)
              go_wp2_with (first
                | (refine wpList_build rfl 65 _ rfl [(0, .string (nm true)), (1, .slice a1 l1 c1), (2, .slice a l c)] rfl _ (build65 _ _ _ _ _ _ _) ?_)
                | (refine wpList_build rfl 46 _ rfl [(0, .iface 63 (.pointer (some ⟨w8.heap.size, 0, none⟩)))] rfl _ (build46p 63 w8.heap.size) ?_)
                | (refine wpList_slice rfl 26 1 _ rfl [(0, .agg (ruC (.iface 63 (.pointer (some ⟨w8.heap.size, 0, none⟩)))))] rfl _ 46 (bs26 w8.heap.size) ?_))
              go_roundg (gk - 1)
              case measure => omega
              case rel =>
                have hg := gb_trans HTK.out HG8.out
                have hw := NS.wrap (a1 := a1) (l1 := l1) (c1 := c1) true (HNQ.out.grow hg)
                refine ⟨rfl, q + 1, by go_num, by omega, by omega, _, _, _, rfl, by simp [maxLen], Lib.hid ⟨?_, gb_trans HJ.out.2 (gb_trans hg (gb_alloc (gb_alloc (gb_refl _ _) _) _))⟩⟩
                rw [lq_next _ _ _ (by rw [HLB.out.2.2]; exact hlt), HPT.out.2, layer_full (.inr rfl)]
                simpa using hw
          · skip
            go_upto_region 8 with fail
            obtain ⟨T, hT⟩ : ∃ T, wy.heap.size = T := ⟨_, rfl⟩
            have hbt := Blk.new wy 55 (tkC (.pointer none) ⟨#[]⟩ 0)
            rw [hT] at hbt
            rw [hT]
            have HTK : Hid (wy.grownBy (wy.alloc (.cells (tkC (.pointer none) ⟨#[]⟩ 0) 55)) none) := Lib.hid (gb_alloc (gb_refl _ _) _)
            clear hT c0 c1 c2 c3 c4 c5 c6 llb
            change Code.wp _ _ _ _ (wy.alloc (.cells (tkC (.pointer none) ⟨#[]⟩ 0) 55))
            generalize wy.alloc (.cells (tkC (.pointer none) ⟨#[]⟩ 0) 55) = w2 at hbt HTK ⊢
            have d0 := blk3 hbt (i := 0) (show _ = some (.pointer none) from rfl)
            have lt := hbt.lt
            clear hbt
            rcases (show l = 0 ∨ 0 < l by omega) with hl0 | hl0
            · subst hl0
              have HEM : Hid ((lq (cz cs i) (sj cs s (i + 1)) q).empty = true) := Lib.hid (by obtain ⟨a', l', c', h1, _, h3, _⟩ := HNF.out; cases h1; exact h3 rfl)
              go_wp2_with fail
              go_roundg (gk - 1)
              case measure => omega
              case rel =>
                refine ⟨rfl, q + 1, by go_num, by omega, by omega, _, _, _, rfl, hl, Lib.hid ⟨?_, gb_trans HJ.out.2 HTK.out⟩⟩
                rw [lq_next _ _ _ (by rw [HLB.out.2.2]; exact hlt), HPT.out.2, layer_empty HEM.out rfl]
                exact HJ.out.1.grow HTK.out
            · have dl : (((l : Nat) : Int) == 0) = false := by simp; omega
              have HEM : Hid ((lq (cz cs i) (sj cs s (i + 1)) q).empty = false) := Lib.hid (by obtain ⟨a', l', c', h1, _, _, h4⟩ := HNF.out; cases h1; exact h4 hl0)
              have HNQ : Hid (NS wy (lq (cz cs i) (sj cs s (i + 1)) q) (.slice a l c)) := Lib.hid (HJ.out.1)
              go_upto_region 15 with (go_at_call 14; refine (HCT.out _ _ _).mono ?_; rintro e w8 ⟨a1, l1, c1, rfl, hg8⟩; have HG8 := Lib.hid hg8; clear hg8)
              go_wp2_with (first
                | (refine wpList_build rfl 65 _ rfl [(0, .string (nm true)), (1, .slice a1 l1 c1), (2, .slice a l c)] rfl _ (build65 _ _ _ _ _ _ _) ?_)
                | (refine wpList_build rfl 46 _ rfl [(0, .iface 63 (.pointer (some ⟨w8.heap.size, 0, none⟩)))] rfl _ (build46p 63 w8.heap.size) ?_)
                | (refine wpList_slice rfl 26 1 _ rfl [(0, .agg (ruC (.iface 63 (.pointer (some ⟨w8.heap.size, 0, none⟩)))))] rfl _ 46 (bs26 w8.heap.size) ?_))
              go_roundg (gk - 1)
              case measure => omega
              case rel =>
                have hg := gb_trans HTK.out HG8.out
                have hw := NS.wrap (a1 := a1) (l1 := l1) (c1 := c1) true (HNQ.out.grow hg)
                refine ⟨rfl, q + 1, by go_num, by omega, by omega, _, _, _, rfl, by simp [maxLen], Lib.hid ⟨?_, gb_trans HJ.out.2 (gb_trans hg (gb_alloc (gb_alloc (gb_refl _ _) _) _))⟩⟩
                rw [lq_next _ _ _ (by rw [HLB.out.2.2]; exact hlt), HPT.out.2, layer_full (.inl HEM.out)]
                simpa using hw
end Go.Proofs.Ytgkekeojdiofnaa
