/-
  helpers.internalQuote at a name with one rune that is written in hex. No statement of the seat is proved here.
-/
import Derived.Test.YtfbeeekakfllpaaDoorIw
namespace Go.Proofs.YtfbeeekakfllpaaDoor
open Go.RowKit
set_option linter.unusedVariables false
set_option linter.unusedSimpArgs false
set_option maxRecDepth 100000 in
set_option maxHeartbeats 4000000 in
theorem iq_et (s : ByteArray) (w : World) (hs : Nmc s) (hz : s.size ≤ 1000) (hn : ∀ i, i < s.size → ns s i = i → cpt s i ≠ 34 ∧ cpt s i ≠ 92) : Calls Tryd.prog 44 #[.string s, .bool true, .int .u8 34] w (IsQ s true w) := by
  have HS := Lib.hid hs
  have HNN := Lib.hid hn
  clear hs hn
  go_enter Tryd.func44, Tryd.ntmps44
  go_upto_block 0 with fail
  go_cut [7] (fun x wx => ∃ L : Nat, x = .int .i64 L ∧ L ≤ 12002 ∧ Below w.heap.size w wx)
  case first =>
    go_wp2_with fail
    obtain ⟨r, hr⟩ : ∃ r, w.heap.size = r := ⟨_, rfl⟩
    have HR := Lib.hid hr
    rw [hr]
    clear hr
    go_loopg [7] s.size (fun k x wr => ∃ i L : Nat, Bd s i ∧ s.size - i ≤ k ∧ x = .int .i64 L ∧ L ≤ 2 + 12 * i ∧ It wr r s i ∧ Below w.heap.size w wr)
    case atStart =>
      have hrr := HR.out
      exact ⟨0, 2, Bd.zero s, by omega, rfl, by omega, by rw [← hrr]; exact It.new w s, (Below.refl _ w).alloc (Nat.le_refl _) _⟩
    case round =>
      obtain ⟨i, L, hbd, hk, rfl, hL, hit, hbel⟩ := hrel
      have HB := Lib.hid (And.intro hbd (And.intro hit hbel))
      have hiz := hbd.le
      clear hbd hit hbel
      rcases (show i = s.size ∨ i < s.size by omega) with rfl | hlt
      · go_upto_region 24 with (refine wpList_next_end rfl _ rfl r s s.size rfl HB.out.2.1 (Nat.lt_irrefl _) ?_)
        rw [← HR.out]
        go_meet
        exact ⟨L, rfl, by omega, HB.out.2.2⟩
      · go_upto_region 4 with (refine wpList_next_at rfl _ rfl r s i rfl HB.out.2.1 hlt ?_; intro w2 hit2 hg2)
        have hcp : (Utf8.decode s i).1 = cpt s i := rfl
        have hnx : i + (Utf8.decode s i).2 = i + wd s i := rfl
        rw [hcp]
        rw [hnx] at hit2
        clear hcp hnx
        have hwp := wd_pos s i hlt
        have hwl := wd_le s i hlt
        have hrc := HS.out i hlt HB.out.1.at_
        have HX : Hid (Bd s (i + wd s i) ∧ It w2 r s (i + wd s i) ∧ Below w.heap.size w w2) := Lib.hid ⟨HB.out.1.next hlt, hit2, HB.out.2.2.grown hg2 HB.out.2.2.size (fun g e => by cases e; have := HR.out; omega)⟩
        have HRC := Lib.hid hrc
        have hrl := rl_any s i hrc
        have hcl : cpt s i ≤ 233 := by rcases hrc with h | h <;> omega
        clear hit2 hg2 hrc
        obtain ⟨wi, hwi⟩ : ∃ x, wd s i = x := ⟨_, rfl⟩
        rw [hwi] at hrl HX hwp hwl
        have HWI := Lib.hid hwi
        clear hwi
        have hw2 : wi ≤ 1000 := by omega
        by_cases hp : prn s true i = true
        · have HP := Lib.hid hp
          clear hp
          go_wp2_with (first
            | (go_at_call 47; refine (cp_any s true i _ HRC.out).mono ?_; rintro e w3 ⟨rfl, rfl⟩; rw [HP.out])
            | (go_at_call 48; refine (Tryd.utf8_RuneLen _ _).mono ?_; rintro e w3 ⟨rfl, rfl⟩; rw [hrl]))
          go_roundg (s.size - (i + wi))
          case measure => omega
          case rel => exact ⟨i + wi, L + wi, HX.out.1, Nat.le_refl _, by go_num, by omega, HX.out.2.1, HX.out.2.2⟩
        · have HP : Hid (prn s true i = false) := Lib.hid (by simpa using hp)
          have hc3 : cpt s i = 34 ∨ cpt s i = 92 ∨ cpt s i = 233 := by
            rcases HRC.out with h | h
            · by_cases h1 : cpt s i = 34
              · exact .inl h1
              · by_cases h2 : cpt s i = 92
                · exact .inr (.inl h2)
                · exact absurd (by unfold prn; simp [h1, h2]; omega) hp
            · exact .inr (.inr h.1)
          clear hp hrl
          have HCP : Hid (∀ w3 : World, Calls Tryd.prog 47 #[.int .i32 (cpt s i : Nat), .bool true] w3 fun e w' => e = .returned (.bool false) ∧ w' = w3) := Lib.hid (fun w3 => by have := cp_any s true i w3 HRC.out; rwa [HP.out] at this)
          have hcc : cpt s i = 233 := by
            have := HNN.out i hlt HB.out.1.at_
            rcases hc3 with h | h | h
            · exact absurd h this.1
            · exact absurd h this.2
            · exact h
          rw [hcc] at HCP
          rw [hcc]
          clear hc3 hcc hcl
          go_wp2_with (go_at_call 47; refine (HCP.out _).mono ?_; rintro e w3 ⟨rfl, rfl⟩)
          go_roundg (s.size - (i + wi))
          case measure => omega
          case rel => exact ⟨i + wi, L + 6, HX.out.1, Nat.le_refl _, by go_num, by omega, HX.out.2.1, HX.out.2.2⟩
  case rest =>
    obtain ⟨L, rfl, hL, hbel⟩ := hcut
    have hmk := run_make_room (P := Tryd.prog) 22 5 (.int .u8 0) 1 Tryd.underlying22 copyB_info rfl .i64 .i64 L (by omega) (by omega) wc
    have HOW : Hid (Own .u8 5 (wc.alloc (.cells (madeCells #[.int .u8 0] L) 5)) w.heap.size (.slice (some ⟨wc.heap.size, 0, none⟩) 0 L) []) := Lib.hid ⟨by simp [row], .inr ⟨wc.heap.size, L, _, rfl, hbel.size, blk_new _ _, by simp, by unfold maxLen; omega, by simp [madeCells], by simp [row]⟩⟩
    have HBE := Lib.hid hbel
    obtain ⟨W, hW⟩ : ∃ W, wc.alloc (.cells (madeCells #[.int .u8 0] L) 5) = W := ⟨_, rfl⟩
    have HW := Lib.hid hW
    rw [hW] at hmk HOW
    obtain ⟨g0, hg0⟩ : ∃ g0, wc.heap.size = g0 := ⟨_, rfl⟩
    rw [hg0] at hmk HOW
    have HG := Lib.hid hg0
    clear hW hg0 hbel
    go_upto_region 28 with (at_builtin; (refine wpList_push W rfl (.tmp 62) (.tmp 64) 22 rfl w.heap.size 5 .u8 1 Tryd.underlying22 copyB_info _ [] 34 rfl HOW.out rfl (by simp [maxLen]) (by simp) (by have := HBE.out.size; rw [← HW.out]; simp; omega) ?_; intro v' w6 ho6 hg6 hn6; have HQ0 : Hid (Gq s true w 0 v' w6) := Lib.hid ⟨ho6, hg6.below (by rw [← HW.out]; exact HBE.out.alloc HBE.out.size _) (by rw [← HW.out]; have := HBE.out.size; simp; omega) (fun g hg => (HOW.out.lt g hg).1)⟩; clear ho6 hg6 hn6 hmk))
    go_wp2_with fail
    go_loopg [10, 11] s.size (fun k x y wr => ∃ i : Nat, Bd s i ∧ s.size - i ≤ k ∧ y = .int .i64 i ∧ Hid (Gq s true w i x wr))
    case atStart => exact ⟨0, Bd.zero s, by omega, rfl, HQ0⟩
    case round =>
      obtain ⟨i, hbd, hk, rfl, HQ⟩ := hrel
      have hiz := hbd.le
      have HB := Lib.hid hbd
      have hqx := qx_len s true i hiz
      have HLN : Hid (i * (6 + s.size) ≤ 1006000) := Lib.hid (by have := Nat.mul_le_mul hiz (Nat.le_refl (6 + s.size)); have := Nat.mul_le_mul hz (show 6 + s.size ≤ 1006 by omega); omega)
      have HQX := Lib.hid hqx
      clear hbd hqx
      rcases (show i = s.size ∨ i < s.size by omega) with rfl | hlt
      · go_wp2_with (at_builtin; (refine wpList_push _ rfl (.tmp 227) (.tmp 229) 22 rfl w.heap.size 5 .u8 1 Tryd.underlying22 copyB_info _ (34 :: qx s true s.size) 34 rfl HQ.out.own rfl (by have := HQX.out; have := HLN.out; simp [maxLen]; omega) (by have := HQX.out; have := HLN.out; simp; omega) HQ.out.bel.size ?_; intro v' w6 ho6 hg6 hn6))
        go_ret
        exact ⟨v', rfl, ho6, hg6.below HQ.out.bel HQ.out.bel.size (fun g hg => (HQ.out.own.lt g hg).1)⟩
      · have hrc := HS.out i hlt HB.out.at_
        have hnx := qx_next s true i HB.out.at_ hlt
        have hwp := wd_pos s i hlt
        have hwl := wd_le s i hlt
        have HRC := Lib.hid hrc
        have HX : Hid (Bd s (i + wd s i) ∧ qx s true (i + wd s i) = qx s true i ++ qr s true i) := Lib.hid ⟨HB.out.next hlt, hnx⟩
        have hcl : cpt s i ≤ 233 := by rcases hrc with h | h <;> omega
        have HDW : Hid (∀ w3 : World, Calls Tryd.prog 49 #[.string (s.extract i s.size)] w3 fun e w' => e = .returned (.tuple #[.int .i32 (cpt s i : Nat), .int .i64 (wd s i : Nat)]) ∧ w' = w3) := Lib.hid (fun w3 => dw_any s i w3 hlt hrc)
        clear hrc hnx
        by_cases hp : prn s true i = true
        · have HP := Lib.hid hp
          clear hp
          go_upto_block 5 with (first
            | (go_at_call 49; refine (HDW.out _).mono ?_; rintro e w3 ⟨rfl, rfl⟩)
            | (go_at_call 47; refine (cp_any s true i _ HRC.out).mono ?_; rintro e w3 ⟨rfl, rfl⟩; rw [HP.out]))
          go_cut [11] (fun x wx => ∃ j : Nat, x = .int .i64 j ∧ i < j ∧ Bd s j ∧ qx s true j = qx s true i ++ bts s i j ∧ wx = w3)
          case first =>
            go_wp2_with fail
            go_loopg [11] s.size (fun k x wx => ∃ j : Nat, x = .int .i64 j ∧ i < j ∧ s.size - j ≤ k ∧ Hid (Bd s j ∧ qx s true j = qx s true i ++ bts s i j ∧ wx = w3))
            case atStart =>
              refine ⟨i + wd s i, by go_num, by omega, by omega, Lib.hid ⟨HX.out.1, ?_, rfl⟩⟩
              rw [HX.out.2, qr_prn HP.out, bts_next s i i _ (Nat.le_refl _), bts_self, List.nil_append]
            case round =>
              obtain ⟨j, rfl, hij, hjk, HJ⟩ := hrel
              have hjz := HJ.out.1.le
              rcases (show j = s.size ∨ j < s.size by omega) with rfl | hjl
              · go_wp2_with fail
                go_meet
                exact ⟨_, rfl, hij, HJ.out⟩
              · have hrc := HS.out j hjl HJ.out.1.at_
                have HRJ := Lib.hid hrc
                have hwpj := wd_pos s j hjl
                have hwlj := wd_le s j hjl
                have hclj : cpt s j ≤ 233 := by rcases hrc with h | h <;> omega
                have HDJ : Hid (∀ w3 : World, Calls Tryd.prog 49 #[.string (s.extract j s.size)] w3 fun e w' => e = .returned (.tuple #[.int .i32 (cpt s j : Nat), .int .i64 (wd s j : Nat)]) ∧ w' = w3) := Lib.hid (fun w3 => dw_any s j w3 hjl hrc)
                clear hrc
                by_cases hpj : prn s true j = true
                · have HPJ := Lib.hid hpj
                  clear hpj
                  go_wp2_with (first
                    | (go_at_call 49; refine (HDJ.out _).mono ?_; rintro e w4 ⟨rfl, rfl⟩)
                    | (go_at_call 47; refine (cp_any s true j _ HRJ.out).mono ?_; rintro e w4 ⟨rfl, rfl⟩; rw [HPJ.out]))
                  go_roundg (s.size - (j + wd s j))
                  case measure => omega
                  case rel =>
                    refine ⟨j + wd s j, by go_num, by omega, Nat.le_refl _, Lib.hid ⟨HJ.out.1.next hjl, ?_, HJ.out.2.2⟩⟩
                    rw [qx_next s true j HJ.out.1.at_ hjl, HJ.out.2.1, qr_prn HPJ.out, bts_next s i j _ (by omega), List.append_assoc]
                · have HPJ : Hid (prn s true j = false) := Lib.hid (by simpa using hpj)
                  clear hpj
                  go_wp2_with (first
                    | (go_at_call 49; refine (HDJ.out _).mono ?_; rintro e w4 ⟨rfl, rfl⟩)
                    | (go_at_call 47; refine (cp_any s true j _ HRJ.out).mono ?_; rintro e w4 ⟨rfl, rfl⟩; rw [HPJ.out]))
                  go_meet
                  exact ⟨j, rfl, hij, HJ.out⟩
          case rest =>
            obtain ⟨j, rfl, hij, hbj, hqj, hwj⟩ := hcut
            have hjz := hbj.le
            have HJ := Lib.hid (And.intro hbj (And.intro hqj hwj))
            have hlen : (34 :: qx s true i).length ≤ 1006001 := by have := HQX.out; have := HLN.out; simp; omega
            rw [hwj]
            clear hbj hqj hwj
            go_wp2_with (at_builtin; (refine wpList_pushS _ rfl (.tmp 100) (.tmp 104) rfl w.heap.size _ (34 :: qx s true i) rfl HQ.out.own (s.extract i j) (bts s i j) (strCells_ext s i j (by omega) hjz) rfl (by simp only [ByteArray.size_extract]; omega) HQ.out.bel.size ?_; intro v' w6 ho6 hg6; have HG6 : Hid (Gq s true w j v' w6) := Lib.hid (HQ.out.push ho6 hg6 HJ.out.2.1); clear ho6 hg6))
            go_roundg (s.size - j)
            case measure => omega
            case rel => exact ⟨j, HJ.out.1, Nat.le_refl _, rfl, HG6⟩
        · have HP : Hid (prn s true i = false) := Lib.hid (by simpa using hp)
          have hc3 : (cpt s i = 34 ∧ wd s i = 1 ∧ qr s true i = [92, 34]) ∨ (cpt s i = 92 ∧ wd s i = 1 ∧ qr s true i = [92, 92]) ∨ (cpt s i = 233 ∧ wd s i = 2 ∧ true = true ∧ qr s true i = [92, 117, 48, 48, 69, 57]) := by
            by_cases h1 : cpt s i = 34
            · left
              refine ⟨h1, ?_, by unfold qr; rw [if_pos h1]⟩
              rcases HRC.out with h | h <;> omega
            · by_cases h2 : cpt s i = 92
              · right; left
                refine ⟨h2, ?_, by unfold qr; rw [if_neg h1, if_pos h2]⟩
                rcases HRC.out with h | h <;> omega
              · right; right
                have h3 : cpt s i = 233 ∧ true = true := by
                  by_cases h : cpt s i = 233 ∧ true = true
                  · exact h
                  · exact absurd (by unfold prn; simp only [decide_eq_true_eq]; exact ⟨h1, h2, fun e => h ⟨e.1, rfl⟩⟩) hp
                refine ⟨h3.1, ?_, h3.2, by unfold qr; rw [if_neg h1, if_neg h2, if_pos h3]⟩
                rcases HRC.out with h | h <;> omega
          clear hp
          have HCP : Hid (∀ w3 : World, Calls Tryd.prog 47 #[.int .i32 (cpt s i : Nat), .bool true] w3 fun e w' => e = .returned (.bool false) ∧ w' = w3) := Lib.hid (fun w3 => by have := cp_any s true i w3 HRC.out; rwa [HP.out] at this)
          have hlen : (34 :: qx s true i).length ≤ 1006001 := by have := HQX.out; have := HLN.out; simp; omega
          obtain ⟨hc, hw, hq⟩ : cpt s i = 233 ∧ wd s i = 2 ∧ qr s true i = [92, 117, 48, 48, 69, 57] := by
            have := HNN.out i hlt HB.out.at_
            rcases hc3 with h | h | h
            · exact absurd h.1 this.1
            · exact absurd h.1 this.2
            · exact ⟨h.1, h.2.1, h.2.2.2⟩
          clear hc3
          rw [hc] at HCP HDW
          rw [hw] at HX HDW hwl
          rw [hq] at HX
          clear hc hw hq hcl hwp
          go_upto_region 41 with (first
            | (go_at_call 49; refine (HDW.out _).mono ?_; rintro e w3 ⟨rfl, rfl⟩)
            | (go_at_call 47; refine (HCP.out _).mono ?_; rintro e w3 ⟨rfl, rfl⟩))
          have hb0 : bits .and .i32 0 15 = 0 := by decide
          have hb14 : bits .and .i32 14 15 = 14 := by decide
          have hb9 : bits .and .i32 233 15 = 9 := by decide
          go_region_law ((refine step_pushL rfl (.tmp 112) (.tmp 127) rfl w.heap.size _ (34 :: qx s true i) [92, 117, 48, 48, 69, 57] rfl (HQ.out.own.gb (gb_trans (gb_drewN _ 1) (World.grownBy_alloc _ _ none)) (Classical.em _)) w3.drew.heap.size rfl (Blk.new _ _ _) (by simp only [List.length_cons, List.length_nil] at hlen ⊢; omega) (Nat.le_trans HQ.out.bel.size (by simp)) ?_; intro v' w6 ho6 hg6; have HG6 : Hid (Gq s true w (i + 2) v' w6) := Lib.hid (HQ.out.push ho6 (gb_trans (gb_trans (gb_drewN w3 1) (World.grownBy_alloc _ _ _)) hg6) HX.out.2); clear ho6 hg6))
          all_goals
            go_wp2_with fail
            go_roundg (s.size - (i + 2))
            case measure => omega
            case rel => exact ⟨i + 2, HX.out.1, Nat.le_refl _, by go_num, HG6⟩
end Go.Proofs.YtfbeeekakfllpaaDoor
