/-
  FnStringLiteralPlainTextNormalisesLineBreaks' walk at this seat. No statement of the seat is proved here.
-/
import Derived.Test.YtiaiphoeopdlaaaFmtSl
namespace Go.Proofs.YtiaiphoeopdlaaaFmt
open Go.RowKit
set_option linter.unusedVariables false
theorem bdr {B : Nat} {a w : World} (h : Below B a w) (m : Nat) : Below B a (w.drewN m) := ⟨h.os, h.tape, h.output, h.size, h.block⟩

set_option maxRecDepth 100000 in
set_option maxHeartbeats 2000000 in
theorem law_any (T : ByteArray) (w : World) (hT : T.size ≤ maxLen) (ht : Lib.Utf8Tabs 0 1 w) :
    Calls Tryf.prog 3 #[.string T] w fun e w' => e = .returned (.bool true) ∧ Below w.heap.size w w' := by
  have HZ := Lib.hid (zb_any T w hT)
  have HT := Lib.hid ht
  clear ht
  unfold maxLen at hT
  go_enter Tryf.func3, Tryf.ntmps3
  go_upto_if 11 with (go_at_call 4; refine HZ.out.mono ?_; rintro e w' ⟨⟨b, rfl⟩, rfl⟩)
  cases b
  · go_wp2_with fail
    go_ret
    exact ⟨rfl, Below.refl _ _⟩
  by_cases hz : T.size ≤ 65536
  rotate_left
  · go_wp2_with fail
    go_ret
    exact ⟨rfl, Below.refl _ _⟩
  clear hT HZ
  go_wp2_with fail
  go_loopg [3] T.size (fun k a wr => ∃ i : Nat, a = .int .i64 (i : Int) ∧ i ≤ T.size ∧ T.size - i ≤ k ∧ Hid (∀ j, j < i → byteAt T j < 128 ∧ byteAt T j ≠ 92) ∧ wr = w)
  case atStart => exact ⟨0, rfl, by omega, by omega, Lib.hid (fun j h => by omega), rfl⟩
  case round =>
    obtain ⟨i, rfl, hi, hk, HN, rfl⟩ := hrel
    obtain ⟨wz, rfl⟩ : ∃ wz : World, wz = wr := ⟨_, rfl⟩
    rcases (show T.size = i ∨ i < T.size by omega) with he | hlt
    · have HASC : Hid (∀ j, j < T.size → byteAt T j < 128 ∧ byteAt T j ≠ 92) := Lib.hid (by rw [he]; exact HN.out)
      have d0 : decide ((i : Int) < (T.size : Int)) = false := by simp; omega
      have d00 : decide (i < T.size) = false := by simp; omega
      clear he HN hk hi
      obtain ⟨i0, hi0, hz0, hz1, hz2⟩ := info_parts info24
      go_wp2_with (at_make; refine wpList_make_own wz rfl _ _ 23 rfl wz.heap.size 24 i0 (.int .u16 0) 1 Tryf.underlying23 hi0 hz0 hz1 .i64 .i64 (T.size : Int) T.size rfl rfl rfl (by rw [hz2]; omega) (by unfold maxLen; omega) (Nat.le_refl _) ?_; intro w1 ho1 hg1; have O1 : Hid (Own .u16 24 w1 wz.heap.size (.slice (some ⟨wz.heap.size, 0, none⟩) 0 T.size) [] ∧ Below wz.heap.size wz w1) := Lib.hid ⟨ho1, (Below.refl _ _).grown hg1 (Nat.le_refl _) (fun k hk => by cases hk)⟩; clear ho1 hg1)
      go_loopg [4, 5] T.size (fun k v a wr => ∃ i : Nat, a = .int .i64 (i : Int) ∧ i ≤ T.size ∧ T.size - i ≤ k ∧ Hid (∃ zs, Own .u16 24 wr wz.heap.size v zs ∧ zs.length ≤ i ∧ NR T zs i ∧ Below wz.heap.size wz wr))
      case atStart => exact ⟨0, rfl, by omega, by omega, Lib.hid ⟨[], O1.out.1, by simp, NR.start T, O1.out.2⟩⟩
      case round =>
        obtain ⟨j, rfl, hj, hjk, HO⟩ := hrel
        obtain ⟨wr, rfl⟩ : ∃ wy : World, wy = wr := ⟨_, rfl⟩
        obtain ⟨v, rfl⟩ : ∃ v, v = u4 := ⟨_, rfl⟩
        obtain ⟨zs, hO, hzl, hNR, hB⟩ := HO.out
        have hzs := hB.size
        rcases (show T.size = j ∨ j < T.size by omega) with he | hjlt
        · have hzs' : zs = nrm T.data.toList := hNR.stop (by rw [he]; exact Nat.le_refl _)
          have hlen : zs.length ≤ 65536 := by omega
          have d0 : decide ((j : Int) < (T.size : Int)) = false := by simp; omega
          have d00 : decide (j < T.size) = false := by simp; omega
          obtain ⟨p, hp⟩ : ∃ p, wr.heap.size = p := ⟨_, rfl⟩
          have hw1 : 1 < wz.heap.size := World.block_lt_of_cell? wz ⟨1, 0, none⟩ (HT.out.2 0 (by decide)).1
          have hball : Below wz.heap.size wz (wr.alloc (.cells (lxCells T) 72)) := hB.alloc hzs _
          have HS1 : Hid (Calls Tryf.prog 6 #[.pointer (some ⟨p, 0, none⟩)] (wr.alloc (.cells (lxCells T) 72)) fun e w' => S1 T p (wr.alloc (.cells (lxCells T) 72)) e w') := Lib.hid
            (sl1_any p T _ (by rw [← hp]; exact Blk.new wr 72 (lxCells T)) (by omega) hz HASC.out (tabs_below HT.out hball (by omega) hw1))
          have HO2 := Lib.hid (And.intro hO (And.intro hB hzs'))
          obtain ⟨ao, cap, hv, _, _, _⟩ := hO.form
          subst hv
          obtain ⟨n, hn⟩ : ∃ n, zs.length = n := ⟨_, rfl⟩
          rw [hn] at hlen HO2 ⊢
          clear he HO hO hB hNR hzs' hzl hball
          go_upto_region 22 with (first
            | (go_at_call 5; refine (new_any T wr).mono ?_; rintro e w4 ⟨rfl, rfl⟩; rw [hp])
            | (go_at_call 6; refine HS1.out.mono ?_; rintro e w5 ⟨v1, rfl, hs1⟩; have H5 := Lib.hid hs1; clear hs1))
          obtain ⟨ao1, cap1, hv1, hin1, _, hf1⟩ := H5.out.1.form
          have hx1 : ∃ x, ao1 = some x := by
            rcases hf1 with ⟨e1, e2, e3⟩ | ⟨g, e1, _⟩
            · exact absurd (by rw [hv1, e1, e2, e3]; rfl) H5.out.2.1
            · exact ⟨_, e1⟩
          obtain ⟨x, rfl⟩ := hx1
          have hzeq := HO2.out.2.2
          rw [← hzeq, hn] at hv1
          rw [← hzeq] at hin1
          subst hv1
          have hbw : Below wr.heap.size wr w5 := ((Below.refl _ wr).alloc (Nat.le_refl _) (.cells (lxCells T) 72)).trans (by rw [hp]; exact H5.out.2.2.2)
          have hkW : Own .u16 24 w5 wz.heap.size (.slice ao n cap) zs := HO2.out.1.kept hbw
          obtain ⟨ao', cap', hvv, hinW, _, _⟩ := hkW.form
          simp only [Value.slice.injEq] at hvv
          obtain ⟨e1, e2, e3⟩ := hvv
          rw [← e1] at hinW
          clear e1 e2 e3
          have HI : Hid (∀ m, In .u16 (w5.drewN m) (some x) zs ∧ In .u16 (w5.drewN m) ao zs) := Lib.hid (fun m => ⟨hin1, hinW⟩)
          have HEQ : Hid (∀ m, Calls Tryf.prog 7 #[.slice (some x) n cap1, .slice ao n cap] (w5.drewN m) fun e w' => e = .returned (.bool true) ∧ ∃ k, w' = (w5.drewN m).drewN k) := Lib.hid (fun m =>
            eq_any (some x) ao n cap1 cap zs (w5.drewN m) (HI.out m).1 (HI.out m).2 hn hlen)
          have HE0 : Hid (Calls Tryf.prog 7 #[.slice (some x) n cap1, .slice ao n cap] w5 fun e w' => e = .returned (.bool true) ∧ ∃ k, w' = w5.drewN k) := Lib.hid (
            eq_any (some x) ao n cap1 cap zs w5 hin1 hinW hn hlen)
          have HSL : Hid (∀ m, Calls Tryf.prog 6 #[.pointer (some ⟨p, 0, none⟩)] (w5.drewN m) fun e w' => e = .returned (.slice (some x) n cap1) ∧ w' = w5.drewN m) := Lib.hid (fun m =>
            sl2_any p T _ _ (wr.alloc (.cells (lxCells T) 72)) (w5.drewN m) ⟨H5.out.1, H5.out.2.1, H5.out.2.2.1, bdr H5.out.2.2.2 m⟩)
          have HFIN : Hid (∀ m, Below wz.heap.size wz (w5.drewN m)) := Lib.hid (fun m => bdr (HO2.out.2.1.trans (hbw.mono hzs)) m)
          have hnil : (binOp .eql 23 (.slice (some x) n cap1) (.slice none 0 0)).run Tryf.prog w5 = .ok (.bool false) w5 := by simp only [binOp]; simp [run_equal_slice_nil w5 23 24 (some x) n cap1 Tryf.underlying23]
          clear hbw hkW hin1 hinW hzeq hf1
          go_upto_region 24 with (go_at_call 7; refine HE0.out.mono ?_; rintro e w6 ⟨rfl, m1, rfl⟩)
          go_wp2_with (first
            | (go_at_call 6; refine (HSL.out m1).mono ?_; rintro e w7 ⟨rfl, rfl⟩)
            | (go_at_call 7; refine (HEQ.out m1).mono ?_; rintro e w8 ⟨rfl, m2, rfl⟩))
          go_ret
          exact ⟨rfl, HFIN.out (m1 + m2)⟩
        · have e1 := byteAt_get T j hjlt
          obtain ⟨b, hb⟩ : ∃ b, byteAt T j = b := ⟨_, rfl⟩
          rw [hb] at e1
          have hb128 := (HASC.out j hjlt).1
          rw [hb] at hb128
          have HBT := Lib.hid (And.intro hb (And.intro hNR (And.intro hO hB)))
          clear hb hNR hO hB HO
          obtain ⟨n1, hn1⟩ : ∃ n : Nat, j + 1 = n := ⟨_, rfl⟩
          have hn1i : ((j : Int) + 1) = (n1 : Int) := by omega
          by_cases h13 : b = 13
          · subst h13
            obtain ⟨n2, hn2⟩ : ∃ n2 : Nat, n1 + 1 = n2 := ⟨_, rfl⟩
            have hn2i : ((n1 : Int) + 1) = (n2 : Int) := by omega
            rcases (show n1 = T.size ∨ n1 < T.size by omega) with he | hlt1
            · have g2 : decide ((n1 : Int) < (T.size : Int)) = false := by simp; omega
              have g20 : decide (n1 < T.size) = false := by simp; omega
              have HE := Lib.hid he
              have hle : n1 ≤ T.size := by omega
              clear he
              go_wp2_with (at_builtin; refine wpList_push wr rfl (.tmp 45) (.tmp 46) 23 rfl wz.heap.size 24 .u16 2 Tryf.underlying23 info24 v zs 10 rfl HBT.out.2.2.1 rfl (by unfold maxLen; omega) (by omega) hzs ?_; intro v' w5 ho5 hg5 hn5)
              go_roundg (T.size - n1)
              case measure => omega
              case rel => exact ⟨n1, by first | rfl | go_num, by omega, Nat.le_refl _, Lib.hid ⟨_, ho5, by simp; omega, by rw [← hn1]; exact HBT.out.2.1.cr hjlt HBT.out.1 (.inl (by rw [hn1]; exact HE.out)), HBT.out.2.2.2.grown hg5.1 hzs (fun x e => (HBT.out.2.2.1.lt x e).1)⟩⟩
            · have e2 := byteAt_get T n1 hlt1
              obtain ⟨b2, hb2⟩ : ∃ b, byteAt T n1 = b := ⟨_, rfl⟩
              rw [hb2] at e2
              have HB2 := Lib.hid hb2
              clear hb2
              have g1 : (0 : Int) ≤ (n1 : Int) := by omega
              have g2 : (n1 : Int) < (T.size : Int) := by omega
              by_cases h10 : b2 = 10
              · subst h10
                go_wp2_with (at_builtin; refine wpList_push wr rfl (.tmp 45) (.tmp 46) 23 rfl wz.heap.size 24 .u16 2 Tryf.underlying23 info24 v zs 10 rfl HBT.out.2.2.1 rfl (by unfold maxLen; omega) (by omega) hzs ?_; intro v' w5 ho5 hg5 hn5)
                go_roundg (T.size - n2)
                case measure => omega
                case rel => exact ⟨n2, by first | rfl | go_num, by omega, Nat.le_refl _, Lib.hid ⟨_, ho5, by simp; omega, by rw [← hn2, ← hn1]; exact HBT.out.2.1.crlf (by omega) HBT.out.1 (by rw [hn1]; exact HB2.out), HBT.out.2.2.2.grown hg5.1 hzs (fun x e => (HBT.out.2.2.1.lt x e).1)⟩⟩
              · have t10 : ((b2 : Int) == 10) = false := beq_eq_false_iff_ne.2 (by omega)
                have HNE := Lib.hid h10
                clear h10
                go_wp2_with (at_builtin; refine wpList_push wr rfl (.tmp 45) (.tmp 46) 23 rfl wz.heap.size 24 .u16 2 Tryf.underlying23 info24 v zs 10 rfl HBT.out.2.2.1 rfl (by unfold maxLen; omega) (by omega) hzs ?_; intro v' w5 ho5 hg5 hn5)
                go_roundg (T.size - n1)
                case measure => omega
                case rel => exact ⟨n1, by first | rfl | go_num, by omega, Nat.le_refl _, Lib.hid ⟨_, ho5, by simp; omega, by rw [← hn1]; exact HBT.out.2.1.cr hjlt HBT.out.1 (.inr (by rw [hn1, HB2.out]; exact HNE.out)), HBT.out.2.2.2.grown hg5.1 hzs (fun x e => (HBT.out.2.2.1.lt x e).1)⟩⟩
          · have t13 : ((b : Int) == 13) = false := beq_eq_false_iff_ne.2 (by omega)
            have H13 := Lib.hid h13
            clear h13
            have hwu : IntKind.u16.wrap (b : Int) = (b : Int) := by simp [IntKind.wrap, IntKind.bits, IntKind.signed]; omega
            go_wp2_with (at_builtin; refine wpList_push wr rfl (.tmp 62) (.tmp 65) 23 rfl wz.heap.size 24 .u16 2 Tryf.underlying23 info24 v zs b rfl HBT.out.2.2.1 rfl (by unfold maxLen; omega) (by omega) hzs ?_; intro v' w5 ho5 hg5 hn5)
            go_roundg (T.size - n1)
            case measure => omega
            case rel => exact ⟨n1, by first | rfl | go_num, by omega, Nat.le_refl _, Lib.hid ⟨_, ho5, by simp; omega, by rw [← hn1]; exact HBT.out.2.1.other hjlt HBT.out.1 H13.out, HBT.out.2.2.2.grown hg5.1 hzs (fun x e => (HBT.out.2.2.1.lt x e).1)⟩⟩
    · have e1 := byteAt_get T i hlt
      obtain ⟨b, hb⟩ : ∃ b, byteAt T i = b := ⟨_, rfl⟩
      rw [hb] at e1
      have HB := Lib.hid hb
      clear hb
      by_cases h128 : b < 128
      · have d1 : decide ((128 : Int) ≤ (b : Int)) = false := by simp; omega
        by_cases h92 : b = 92
        · subst h92
          go_wp2_with fail
          go_ret
          exact ⟨rfl, Below.refl _ _⟩
        · have q : ((b : Int) == 92) = false := beq_eq_false_iff_ne.2 (by omega)
          have HB2 := Lib.hid (And.intro h128 h92)
          clear h92 h128
          go_wp2_with fail
          go_roundg (T.size - (i + 1))
          case measure => omega
          case rel => exact ⟨i + 1, by go_num, hlt, Nat.le_refl _, Lib.hid (fun j h => by
            rcases (show j = i ∨ j < i by omega) with rfl | h
            · rw [HB.out]; exact HB2.out
            · exact HN.out j h), rfl⟩
      · have d1 : decide ((128 : Int) ≤ (b : Int)) = true := by simp; omega
        go_wp2_with fail
        go_ret
        exact ⟨rfl, Below.refl _ _⟩
end Go.Proofs.YtiaiphoeopdlaaaFmt
