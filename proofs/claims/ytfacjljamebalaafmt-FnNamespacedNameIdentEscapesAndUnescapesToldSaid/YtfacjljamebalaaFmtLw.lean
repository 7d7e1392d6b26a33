/-
  The law's walk, whole. No statement of the seat is proved here.
-/
import Derived.Test.YtfacjljamebalaaFmtLp
import Derived.Deep.LoopGhost
import Derived.Deep.DeepCutAuto
namespace Go.Proofs.YtfacjljamebalaaFmt
open Go.RowKit
set_option linter.unusedVariables false
set_option linter.unusedSimpArgs false
theorem flat_len : ∀ (l : List Int), (l.flatMap esc1).length ≤ 2 * l.length
  | [] => Nat.le_refl _
  | z :: l => by
    have := flat_len l
    have h1 : (esc1 z).length ≤ 2 := by unfold esc1; split <;> simp
    rw [List.flatMap_cons, List.length_append, List.length_cons]; omega
theorem esc_len (t : ByteArray) : (esc t).length ≤ 2 * t.size := by
  have := flat_len (byt t)
  rw [byt_length] at this
  exact this
set_option maxHeartbeats 4000000 in
set_option maxRecDepth 100000 in
theorem law_any (t : ByteArray) (b1 b2 b3 b4 : Bool) (w : World) (ht : t.size ≤ maxLen) : Calls Tryf.prog 3 #[.string t, .bool b1, .bool b2, .bool b3, .bool b4] w fun e w' => e = .returned (.bool true) ∧ Below w.heap.size w w' := by
  have HZ := Lib.hid (zb_any t b1 b2 b3 b4 w ht)
  unfold maxLen at ht
  go_enter Tryf.func3, Tryf.ntmps3
  go_upto_if 24 with (go_at_call 4; refine HZ.out.mono ?_; rintro e w' ⟨⟨b, rfl, hb⟩, rfl⟩)
  cases b
  · go_wp2_with fail
    go_ret
    exact ⟨rfl, Below.refl _ _⟩
  have hsz := hb rfl
  have HPN := Lib.hid (pn_any t w hsz)
  clear hb ht HZ
  go_upto_if 30 with (go_at_call 5; refine HPN.out.mono ?_; rintro e w' ⟨⟨b, rfl, hb⟩, rfl⟩)
  cases b
  · go_wp2_with fail
    go_ret
    exact ⟨rfl, Below.refl _ _⟩
  have HN : Hid (Nm t) := Lib.hid (hb rfl)
  clear hb HPN
  go_upto_region 9 with (first
    | (go_at_call 6; refine (b3ws_any b2 _).mono ?_; rintro e w1 ⟨⟨z, rfl⟩, rfl⟩)
    | (go_at_call 7; refine (new276_any b3 b4 _).mono ?_; rintro e w1 ⟨rfl, hf⟩; have H1 := Lib.hid hf; clear hf))
  have hz1 := H1.out.2.size
  have hes : Hid (∀ z ∈ (42 :: 124 :: esc t), 0 ≤ z ∧ z < 256) := Lib.hid (by
    intro z hz
    rcases List.mem_cons.1 hz with rfl | hz
    · omega
    rcases List.mem_cons.1 hz with rfl | hz
    · omega
    exact esc_lt t z hz)
  cases b1
  · obtain ⟨D, hD⟩ : ∃ D, D = strOf (esc t) := ⟨_, rfl⟩
    have HD : Hid (byt D = esc t) := Lib.hid (by rw [hD]; exact byt_strOf _ (esc_lt t))
    clear hD
    have HC := Lib.hid (zz0 w.heap.size w.heap.size 0 b3 b4 [] 0 0 t z w1 H1.out.1 hz1 hsz (by simp) HN.out)
    go_upto_region 12 with (first
      | (go_at_call 10; refine (ki_any _).mono ?_; rintro e w2 ⟨rfl, rfl⟩)
      | (go_at_call 11; refine HC.out.mono ?_; rintro e w2 ⟨rfl, hf⟩; have H2 : Hid (Pr w2 w.heap.size w.heap.size 0 b3 b4 (byt D) 0 0 ∧ Below w.heap.size w w2) := Lib.hid ⟨by rw [HD.out]; exact hf.1, H1.out.2.trans hf.2.1⟩; clear hf))
    go_upto_region 17 with (go_at_call 12; refine (css276_any _ _ _ _ _ _ _ _ _ H2.out.1).mono ?_; rintro e w3 ⟨⟨v, rfl, ho⟩, rfl⟩; obtain ⟨ao, c, rfl, _, _, _⟩ := ho.form; have hcv := conv_own ho; clear ho)
    clear hcv H1 hes
    have hDz : D.size ≤ 2097152 := by have := esc_len t; have h2 := HD.out; rw [← byt_length, h2]; omega
    obtain ⟨i0, hi0, hz0, hz1', hz2⟩ := info_parts u8_info
    go_upto_region 18 with (at_make; refine wpList_make_own w2 rfl _ _ 30 rfl w2.heap.size 5 i0 (.int .u8 0) 1 Tryf.underlying30 hi0 hz0 hz1' .i64 .i64 (D.size : Int) D.size rfl rfl rfl (by rw [hz2]; omega) (by unfold maxLen; omega) (Nat.le_refl _) ?_; intro w3 ho1 hg1; have O1 : Hid (Own .u8 5 w3 w2.heap.size (.slice (some ⟨w2.heap.size, 0, none⟩) 0 D.size) [] ∧ Below w2.heap.size w2 w3) := Lib.hid ⟨ho1, (Below.refl _ _).grown hg1 (Nat.le_refl _) (fun k hk => by cases hk)⟩; clear ho1 hg1)
    go_wp2_with fail
    go_loopg [14, 15] D.size (fun k v a wr => ∃ i : Nat, a = .int .i64 (i : Int) ∧ D.size - i ≤ k ∧ Hid (Lp t D i v w2.heap.size w2 wr))
    case atStart => exact ⟨0, rfl, by omega, Lib.hid ⟨Nat.zero_le _, 0, Nat.zero_le _, by rw [HD.out]; rfl, O1.out.1, O1.out.2⟩⟩
    case round =>
      obtain ⟨i, rfl, hk, HL⟩ := hrel
      obtain ⟨wr, rfl⟩ : ∃ wy : World, wy = wr := ⟨_, rfl⟩
      obtain ⟨v, rfl⟩ : ∃ v, v = u14 := ⟨_, rfl⟩
      rcases HL.out.step HN.out with ⟨rfl, ho, hb⟩ | ⟨j, c, hi, e1, hc, hj, h92, hnb, ho, hb, nx⟩ | ⟨j, c, hi, hi', e1, e2, hc, hj, hnb, ho, hb, nx⟩
      · obtain ⟨ao2, cap2, rfl, _, _, _⟩ := ho.form
        have hcv2 := conv_own ho
        have HE := Lib.hid (H2.out.2.trans (hb.mono (H2.out.2.size)))
        clear ho hb HL
        go_wp2_with fail
        go_ret
        exact ⟨rfl, HE.out⟩
      · have hzs := hb.size
        have hbl : ((byt t).take j).length ≤ 1048576 := by rw [List.length_take, byt_length]; omega
        have HO := Lib.hid (And.intro ho (And.intro hb nx))
        have HNB : Hid (nb (c : Int) = true) := Lib.hid hnb
        clear ho hb nx hnb HL
        go_wp2_with (first
          | (go_at_call 13; refine (nb_any (c : Int) _).mono ?_; rintro e5 w5 ⟨rfl, rfl⟩; rw [HNB.out])
          | (at_builtin; refine wpList_push wr rfl (.tmp 101) (.tmp 103) 30 rfl w2.heap.size 5 .u8 1 Tryf.underlying30 u8_info v _ (c : Int) rfl HO.out.1 rfl (by unfold maxLen; omega) (by omega) hzs ?_; intro v' w5 ho5 hg5 hn5))
        go_roundg (D.size - (i + 1))
        case measure => omega
        case rel => exact ⟨i + 1, by first | rfl | go_num, Nat.le_refl _, Lib.hid (HO.out.2.2 _ _ ho5 (HO.out.2.1.grown hg5.1 hzs (fun x e => (HO.out.1.lt x e).1)))⟩
      · have hzs := hb.size
        have hbl : ((byt t).take j).length ≤ 1048576 := by rw [List.length_take, byt_length]; omega
        have HO := Lib.hid (And.intro ho (And.intro hb nx))
        have HNB : Hid (nb (c : Int) = false) := Lib.hid hnb
        clear ho hb nx hnb HL
        go_wp2_with (first
          | (go_at_call 13; refine (nb_any (c : Int) _).mono ?_; rintro e5 w5 ⟨rfl, rfl⟩; rw [HNB.out])
          | (at_builtin; refine wpList_push wr rfl (.tmp 92) (.tmp 94) 30 rfl w2.heap.size 5 .u8 1 Tryf.underlying30 u8_info v _ (c : Int) rfl HO.out.1 rfl (by unfold maxLen; omega) (by omega) hzs ?_; intro v' w5 ho5 hg5 hn5))
        go_roundg (D.size - (i + 2))
        case measure => omega
        case rel => exact ⟨i + 2, by first | rfl | go_num, Nat.le_refl _, Lib.hid (HO.out.2.2 _ _ ho5 (HO.out.2.1.grown hg5.1 hzs (fun x e => (HO.out.1.lt x e).1)))⟩
  · obtain ⟨O, hO⟩ : ∃ O, O = strOf (42 :: 124 :: esc t) := ⟨_, rfl⟩
    have hO' : byt O = 42 :: 124 :: esc t := by rw [hO]; exact byt_strOf _ hes.out
    have HO1 : Hid (byt O = 42 :: 124 :: esc t) := Lib.hid hO'
    obtain ⟨o0, e0⟩ := byt_get (D := O) (i := 0) (z := 42) (by rw [hO']; rfl)
    obtain ⟨o1, e1⟩ := byt_get (D := O) (i := 1) (z := 124) (by rw [hO']; rfl)
    have o2 : 2 ≤ O.size := by omega
    obtain ⟨D, hD⟩ : ∃ D, O.extract 2 O.size = D := ⟨_, rfl⟩
    have HD : Hid (byt D = esc t) := Lib.hid (by rw [← hD, byt_ext, hO']; rfl)
    clear hO hO'
    have HC := Lib.hid (zz1 w.heap.size w.heap.size 0 b3 b4 [] 0 0 t z w1 H1.out.1 hz1 hsz (by simp) HN.out)
    go_upto_region 12 with (first
      | (go_at_call 9; refine (ka_any _).mono ?_; rintro e w2 ⟨rfl, rfl⟩)
      | (go_at_call 10; refine (ki_any _).mono ?_; rintro e w2 ⟨rfl, rfl⟩)
      | (go_at_call 8; refine HC.out.mono ?_; rintro e w2 ⟨rfl, hf⟩; have H2 : Hid (Pr w2 w.heap.size w.heap.size 0 b3 b4 (byt O) 0 0 ∧ Below w.heap.size w w2) := Lib.hid ⟨by rw [HO1.out]; exact hf.1, H1.out.2.trans hf.2.1⟩; clear hf))
    go_upto_region 17 with (go_at_call 12; refine (css276_any _ _ _ _ _ _ _ _ _ H2.out.1).mono ?_; rintro e w3 ⟨⟨v, rfl, ho⟩, rfl⟩; obtain ⟨ao, c, rfl, _, _, _⟩ := ho.form; have hcv := conv_own ho; clear ho)
    clear hcv H1 hes
    have hDz : D.size ≤ 2097152 := by have := esc_len t; have h2 := HD.out; rw [← byt_length, h2]; omega
    obtain ⟨i0, hi0, hz0, hz1', hz2⟩ := info_parts u8_info
    go_upto_region 18 with (at_make; refine wpList_make_own w2 rfl _ _ 30 rfl w2.heap.size 5 i0 (.int .u8 0) 1 Tryf.underlying30 hi0 hz0 hz1' .i64 .i64 (D.size : Int) D.size rfl rfl rfl (by rw [hz2]; omega) (by unfold maxLen; omega) (Nat.le_refl _) ?_; intro w3 ho1 hg1; have O1 : Hid (Own .u8 5 w3 w2.heap.size (.slice (some ⟨w2.heap.size, 0, none⟩) 0 D.size) [] ∧ Below w2.heap.size w2 w3) := Lib.hid ⟨ho1, (Below.refl _ _).grown hg1 (Nat.le_refl _) (fun k hk => by cases hk)⟩; clear ho1 hg1)
    go_wp2_with fail
    go_loopg [14, 15] D.size (fun k v a wr => ∃ i : Nat, a = .int .i64 (i : Int) ∧ D.size - i ≤ k ∧ Hid (Lp t D i v w2.heap.size w2 wr))
    case atStart => exact ⟨0, rfl, by omega, Lib.hid ⟨Nat.zero_le _, 0, Nat.zero_le _, by rw [HD.out]; rfl, O1.out.1, O1.out.2⟩⟩
    case round =>
      obtain ⟨i, rfl, hk, HL⟩ := hrel
      obtain ⟨wr, rfl⟩ : ∃ wy : World, wy = wr := ⟨_, rfl⟩
      obtain ⟨v, rfl⟩ : ∃ v, v = u14 := ⟨_, rfl⟩
      rcases HL.out.step HN.out with ⟨rfl, ho, hb⟩ | ⟨j, c, hi, e1, hc, hj, h92, hnb, ho, hb, nx⟩ | ⟨j, c, hi, hi', e1, e2, hc, hj, hnb, ho, hb, nx⟩
      · obtain ⟨ao2, cap2, rfl, _, _, _⟩ := ho.form
        have hcv2 := conv_own ho
        have HE := Lib.hid (H2.out.2.trans (hb.mono (H2.out.2.size)))
        clear ho hb HL
        go_wp2_with fail
        go_ret
        exact ⟨rfl, HE.out⟩
      · have hzs := hb.size
        have hbl : ((byt t).take j).length ≤ 1048576 := by rw [List.length_take, byt_length]; omega
        have HO := Lib.hid (And.intro ho (And.intro hb nx))
        have HNB : Hid (nb (c : Int) = true) := Lib.hid hnb
        clear ho hb nx hnb HL
        go_wp2_with (first
          | (go_at_call 13; refine (nb_any (c : Int) _).mono ?_; rintro e5 w5 ⟨rfl, rfl⟩; rw [HNB.out])
          | (at_builtin; refine wpList_push wr rfl (.tmp 101) (.tmp 103) 30 rfl w2.heap.size 5 .u8 1 Tryf.underlying30 u8_info v _ (c : Int) rfl HO.out.1 rfl (by unfold maxLen; omega) (by omega) hzs ?_; intro v' w5 ho5 hg5 hn5))
        go_roundg (D.size - (i + 1))
        case measure => omega
        case rel => exact ⟨i + 1, by first | rfl | go_num, Nat.le_refl _, Lib.hid (HO.out.2.2 _ _ ho5 (HO.out.2.1.grown hg5.1 hzs (fun x e => (HO.out.1.lt x e).1)))⟩
      · have hzs := hb.size
        have hbl : ((byt t).take j).length ≤ 1048576 := by rw [List.length_take, byt_length]; omega
        have HO := Lib.hid (And.intro ho (And.intro hb nx))
        have HNB : Hid (nb (c : Int) = false) := Lib.hid hnb
        clear ho hb nx hnb HL
        go_wp2_with (first
          | (go_at_call 13; refine (nb_any (c : Int) _).mono ?_; rintro e5 w5 ⟨rfl, rfl⟩; rw [HNB.out])
          | (at_builtin; refine wpList_push wr rfl (.tmp 92) (.tmp 94) 30 rfl w2.heap.size 5 .u8 1 Tryf.underlying30 u8_info v _ (c : Int) rfl HO.out.1 rfl (by unfold maxLen; omega) (by omega) hzs ?_; intro v' w5 ho5 hg5 hn5))
        go_roundg (D.size - (i + 2))
        case measure => omega
        case rel => exact ⟨i + 2, by first | rfl | go_num, Nat.le_refl _, Lib.hid (HO.out.2.2 _ _ ho5 (HO.out.2.1.grown hg5.1 hzs (fun x e => (HO.out.1.lt x e).1)))⟩
end Go.Proofs.YtfacjljamebalaaFmt
