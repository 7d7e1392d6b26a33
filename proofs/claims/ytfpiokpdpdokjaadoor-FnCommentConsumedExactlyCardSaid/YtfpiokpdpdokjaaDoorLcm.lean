/-
  FnCommentConsumedExactly's law, walked. No statement of the seat is proved here.
-/
import Derived.Test.YtfpiokpdpdokjaaDoorCcm
import Derived.Test.YtfpiokpdpdokjaaDoorZdAny
namespace Go.Proofs.YtfpiokpdpdokjaaDoor
open Go.RowKit
set_option linter.unusedVariables false
theorem bytes_beq' (a b : ByteArray) : (a == b) = true ↔ a = b := by
  cases a with | mk x => cases b with | mk y => rw [ByteArray.mk.injEq]; exact beq_iff_eq (a := x) (b := y)
theorem bdr {B : Nat} {a w : World} (h : Below B a w) (m : Nat) : Below B a (w.drewN m) := ⟨h.os, h.tape, h.output, h.size, h.block⟩
def LawTrue (w : World) (e : Ending) (w' : World) : Prop := e = .returned (.bool true) ∧ Below w.heap.size w w'
theorem cntNL_ext (s : ByteArray) (m : Nat) (hm : m ≤ s.size) : ∀ k, k ≤ m → cntNL (s.extract 0 m) k = cntNL s k
  | 0, _ => rfl
  | k + 1, h => by
    rw [cntNL, cntNL, cntNL_ext s m hm k (by omega), byteAt_ext s 0 m k hm (by omega), Nat.zero_add]
theorem fresh_step (s : ByteArray) (r : Bool) : (fresh s r).step = (fresh s r).at 0 0 := by
  have hc := cnt_dec s 0 (Nat.zero_le _)
  have h0 : cntNL s 0 = 0 := rfl
  rw [h0, Nat.zero_add] at hc
  unfold Lx.step Lx.at fresh
  simp only [Nat.zero_add, Nat.sub_zero, hc]
theorem lex_zstep (p : Nat) (x : Lx) (b q : Nat) (w : World) (h : Lex w p x b q) : Calls Tryd.prog 8 #[.pointer (some ⟨p, 0, none⟩)] w (Went w p x b (q + (decAt x.s q).2)) := by
  have K := Lib.hid (lex_step p x b q w h)
  clear h
  go_enter Tryd.func8, Tryd.ntmps8
  go_wp2_with fail
  refine K.out.mono ?_
  rintro r w' ⟨rfl, h2, h3⟩
  have H := Lib.hid (And.intro h2 h3)
  clear h2 h3
  go_wp2
  go_end0
  exact ⟨rfl, H.out.1, H.out.2⟩
set_option maxRecDepth 100000 in
theorem zcm_any (bd : ByteArray) (p : Nat) (x : Lx) (K : Nat) (w : World) (h : Lex w p x 0 2) (hst : x.st = 0) (hc : Cm x.s bd) (hn : ¬ Has bd ⟨#[42, 47]⟩) (hl : NoLeg bd) (hal : x.al = .slice none 0 0) (hK : EndK bd K) (hB : bd.size ≤ 524288) :
    Calls Tryd.prog 9 #[.pointer (some ⟨p, 0, none⟩), .int .i32 0, .int .i32 2] w (IsCm bd p x K w) := by
  have K := Lib.hid (cm_any bd p x K w h hst hc hn hl hal hK hB)
  clear h hst hc hn hl hal hK hB
  go_enter Tryd.func9, Tryd.ntmps9
  go_wp2_with fail
  refine K.out.mono ?_
  rintro r w' ⟨rfl, h2⟩
  have H := Lib.hid h2
  clear h2
  go_wp2
  go_end0
  exact ⟨rfl, H.out⟩
set_option maxRecDepth 100000 in
theorem zd (s : ByteArray) (i : Nat) (w : World) (h : i ≤ s.size) (hs : s.size ≤ 2097152) (v : Int) (W : Nat) (hd : decAt s i = (v, W)) : Calls Tryd.prog 10 #[.string s, .int .i64 i] w (Zd.Dec w v W) := by
  by_cases hl : i < s.size
  · unfold decAt at hd
    rw [if_pos hl] at hd
    cases hd
    exact Zd.any s i w hl hs
  · unfold decAt at hd
    rw [if_neg hl] at hd
    cases hd
    obtain rfl : i = s.size := by omega
    have d0 : decide ((s.size : Int) < 0) = false := by simp
    go_enter Tryd.func10, Tryd.ntmps10
    go_wp2
    go_ret2
    exact ⟨rfl, 0, rfl⟩
set_option maxRecDepth 100000 in
theorem bad1 (bd tl : ByteArray) (r : Bool) (w : World) (h : 1048576 < bd.size + tl.size) (ha : bd.size ≤ maxLen) (hb : tl.size ≤ maxLen) : Calls Tryd.prog 3 #[.string bd, .string tl, .bool r] w (LawTrue w) := by
  have HN := Lib.hid (bytes_no bd tl r w h ha hb)
  clear h ha hb
  go_enter Tryd.func3, Tryd.ntmps3
  go_wp2_with (go_at_call 4; refine HN.out.mono ?_; rintro e w1 ⟨rfl, rfl⟩)
  go_ret
  exact ⟨rfl, Below.refl _ _⟩
set_option maxRecDepth 100000 in
theorem bad2 (bd tl : ByteArray) (r : Bool) (w : World) (h : bd.size + tl.size ≤ 1048576) (hx : 524288 < bd.size ∨ 524288 < tl.size) : Calls Tryd.prog 3 #[.string bd, .string tl, .bool r] w (LawTrue w) := by
  have HN := Lib.hid (bytes_yes bd tl r w h)
  rcases (show 524288 < bd.size ∨ (bd.size ≤ 524288 ∧ 524288 < tl.size) by omega) with g1 | ⟨g1, g2⟩
  · have d1 : decide (524288 < bd.size) = true := decide_eq_true g1
    go_enter Tryd.func3, Tryd.ntmps3
    go_wp2_with (go_at_call 4; refine HN.out.mono ?_; rintro e w1 ⟨rfl, rfl⟩)
    go_ret
    exact ⟨rfl, Below.refl _ _⟩
  · have d1 : decide (524288 < bd.size) = false := decide_eq_false (by omega)
    have d2 : decide (524288 < tl.size) = true := decide_eq_true g2
    go_enter Tryd.func3, Tryd.ntmps3
    go_wp2_with (go_at_call 4; refine HN.out.mono ?_; rintro e w1 ⟨rfl, rfl⟩)
    go_ret
    exact ⟨rfl, Below.refl _ _⟩
set_option maxRecDepth 100000 in
theorem bad3 (bd tl : ByteArray) (r : Bool) (w : World) (h : bd.size + tl.size ≤ 1048576) (h1 : bd.size ≤ 524288) (h2 : tl.size ≤ 524288) (hh : Has bd ⟨#[42, 47]⟩) : Calls Tryd.prog 3 #[.string bd, .string tl, .bool r] w (LawTrue w) := by
  have HN := Lib.hid (bytes_yes bd tl r w h)
  have HZ := fun w' => Lib.hid (zc_yes bd ⟨#[42, 47]⟩ w' (by omega) (by decide) (by decide) hh)
  have d1 : decide (524288 < bd.size) = false := decide_eq_false (by omega)
  have d2 : decide (524288 < tl.size) = false := decide_eq_false (by omega)
  clear hh
  go_enter Tryd.func3, Tryd.ntmps3
  go_wp2_with (first | (go_at_call 4; refine HN.out.mono ?_; rintro e w1 ⟨rfl, rfl⟩) | (go_at_call 5; refine (HZ _).out.mono ?_; rintro e w1 ⟨rfl, m, rfl⟩))
  go_ret
  exact ⟨rfl, bdr (Below.refl _ _) _⟩
set_option maxRecDepth 100000 in
set_option maxHeartbeats 20000000 in
theorem law_main (bd tl : ByteArray) (r : Bool) (w : World) (h : bd.size + tl.size ≤ 1048576) (h1 : bd.size ≤ 524288) (h2 : tl.size ≤ 524288) (hn : ¬ Has bd ⟨#[42, 47]⟩) (ht : Lib.Utf8Tabs 0 1 w) : Calls Tryd.prog 3 #[.string bd, .string tl, .bool r] w (LawTrue w) := by
  have w0 : 1 < w.heap.size := World.block_lt_of_cell? w ⟨1, 0, none⟩ (ht.2 0 (by decide)).1
  have HN := Lib.hid (bytes_yes bd tl r w h)
  have HZ := fun w' => Lib.hid (zc_no bd ⟨#[42, 47]⟩ w' (by omega) (by decide) (by decide) hn)
  have HLG := fun w' => Lib.hid (leg_any bd w' (by omega))
  have d1 : decide (524288 < bd.size) = false := decide_eq_false (by omega)
  have d2 : decide (524288 < tl.size) = false := decide_eq_false (by omega)
  have HT := Lib.hid ht
  have HNE := Lib.hid hn
  clear hn ht
  go_enter Tryd.func3, Tryd.ntmps3
  go_upto_if 40 with (first
    | (go_at_call 4; refine HN.out.mono ?_; rintro e w1 ⟨rfl, rfl⟩)
    | (go_at_call 5; refine (HZ _).out.mono ?_; rintro e w1 ⟨rfl, m1, rfl⟩)
    | (go_at_call 6; refine (HLG _).out.mono ?_; rintro e w1 ⟨b, rfl, hb, m2, rfl⟩; have HB := Lib.hid hb; clear hb))
  rcases b with _ | _
  · have HL := Lib.hid (HB.out rfl)
    go_upto_region 8 with fail
    have hcm := cm_of bd tl
    have hssz : ((((⟨#[47, 42]⟩ : ByteArray) ++ bd) ++ ⟨#[42, 47]⟩) ++ tl).size ≤ 1048580 := by
      have z1 : ((⟨#[47, 42]⟩ : ByteArray)).size = 2 := rfl
      have z2 : ((⟨#[42, 47]⟩ : ByteArray)).size = 2 := rfl
      rw [ByteArray.size_append, ByteArray.size_append, ByteArray.size_append, z1, z2]; omega
    obtain ⟨s, hs⟩ : ∃ s, ((((⟨#[47, 42]⟩ : ByteArray) ++ bd) ++ ⟨#[42, 47]⟩) ++ tl) = s := ⟨_, rfl⟩
    obtain ⟨wb, hwb⟩ : ∃ wb, w.drewN (m1 + m2) = wb := ⟨_, rfl⟩
    have HWB : Hid (Below w.heap.size w wb) := Lib.hid (by rw [← hwb]; exact ⟨rfl, rfl, rfl, Nat.le_refl _, fun _ _ => rfl⟩)
    have HTB : Hid (Lib.Utf8Tabs 0 1 wb) := Lib.hid (by rw [← hwb]; exact HT.out)
    rw [hs] at hcm hssz ⊢
    rw [hwb]
    obtain ⟨m, hm⟩ : ∃ m, bd.size + 4 = m := ⟨_, rfl⟩
    have hmi : ((bd.size : Int) + 4) = (m : Int) := by omega
    have hms : m ≤ s.size := by rw [← hm]; exact hcm.sz
    obtain ⟨K, hK⟩ := run_ex (fun i => isWS (byteAt bd (19 + i) : Int)) (bd.size - 19)
    have HCM := Lib.hid (And.intro hcm (And.intro hm hK))
    have HSZ := Lib.hid hssz
    have hwbs := HWB.out.size
    clear hs hwb hcm hm hK hssz HN HZ HLG HB
    go_upto_region 10 with (go_at_call 7; refine (css_new111 s r _).mono ?_; rintro e w2 ⟨p, rfl, hj, hp, hb⟩; have H2 := Lib.hid (And.intro hj (And.intro hp hb)); clear hj hp hb)
    clear hmi
    have hd0 : decAt s 0 = (47, 1) := by have h := HCM.out.1.b0; have hz := HCM.out.1.sz; rw [decAt_ascii s 0 (by omega) (by omega), h]; rfl
    have hd1 : decAt s 1 = (42, 1) := by have h := HCM.out.1.b1; have hz := HCM.out.1.sz; rw [decAt_ascii s 1 (by omega) (by omega), h]; rfl
    have hst0 := css_zstep p (fresh s r) w2 H2.out.1 (Nat.zero_le _) (by have := HSZ.out; show s.size ≤ 2097152; omega) (Nat.le_refl _) (Nat.zero_le _) (tabs_below HTB.out H2.out.2.2 (by omega) (by omega))
    rw [fresh_step] at hst0
    have HS0 := Lib.hid hst0
    have HD := Lib.hid (And.intro hd0 hd1)
    clear hst0 hd0 hd1
    go_upto_region 11 with (go_at_call 8; refine HS0.out.mono ?_; rintro e w3 ⟨rfl, hc3, hg3⟩; have H3 := Lib.hid (And.intro hc3 hg3); clear hc3 hg3)
    have hlx3 : Lex w3 p (fresh s r) 0 0 := ⟨H3.out.1, Nat.zero_le _, Nat.le_refl _, (by have := HSZ.out; show s.size ≤ 2097152; omega), Nat.zero_le _, tabs_gbn (tabs_below HTB.out H2.out.2.2 (by omega) (by omega)) H3.out.2 (fun e => by cases e; have := H2.out.2.1; omega) (fun e => by cases e; have := H2.out.2.1; omega), by have := H2.out.2.1; omega⟩
    have hst1 := lex_zstep p (fresh s r) 0 0 w3 hlx3
    rw [show (fresh s r).s = s from rfl, HD.out.1] at hst1
    have HS1 := Lib.hid hst1
    clear hst1 hlx3
    go_upto_region 12 with (go_at_call 8; refine HS1.out.mono ?_; rintro e w4 ⟨rfl, hc4, hg4⟩; have H4 := Lib.hid (And.intro hc4 hg4); clear hc4 hg4)
    have hst2 := lex_zstep p (fresh s r) 0 (0 + 1) w4 H4.out.1
    rw [show (fresh s r).s = s from rfl, HD.out.2] at hst2
    have HS2 := Lib.hid hst2
    clear hst2
    go_upto_region 13 with (go_at_call 8; refine HS2.out.mono ?_; rintro e w5 ⟨rfl, hc5, hg5⟩; have H5 := Lib.hid (And.intro hc5 hg5); clear hc5 hg5)
    have HS3 := Lib.hid (zcm_any bd p (fresh s r) K w5 H5.out.1 rfl HCM.out.1 HNE.out HL.out rfl HCM.out.2.2 h1)
    go_upto_region 14 with (go_at_call 9; refine HS3.out.mono ?_; rintro e w6 ⟨rfl, x', a1, a2, a3, a4, a5, a6, a7⟩; have H6 := Lib.hid (And.intro a1 (And.intro a2 (And.intro a3 (And.intro a4 (And.intro a5 (And.intro a6 a7)))))); clear a1 a2 a3 a4 a5 a6 a7)
    have HGB : Hid (Below w.heap.size w w6 ∧ w.heap.size ≤ p) := Lib.hid (by
      have hp2 := H2.out.2.1
      have hlt := H2.out.1.lt
      have b2 : Below w.heap.size w w2 := HWB.out.trans (H2.out.2.2.mono hwbs)
      have hpw : w.heap.size ≤ p := by omega
      exact ⟨below_gb (below_gb (below_gb (below_gb b2 H3.out.2 (by have := b2.size; omega) hpw) H4.out.2 (by have := b2.size; have := H3.out.2.size; omega) hpw) H5.out.2 (by have := b2.size; have := H3.out.2.size; have := H4.out.2.size; omega) hpw) H6.out.2.2.2.2.2.2 (by have := b2.size; have := H3.out.2.size; have := H4.out.2.size; have := H5.out.2.size; omega) hpw, hpw⟩)
    obtain ⟨v, W, hd⟩ : ∃ v W, decAt s m = (v, W) := ⟨_, _, rfl⟩
    have HLX : Hid (Lex w6 p x' 0 m) := Lib.hid (by rw [← HCM.out.2.1]; exact H6.out.1)
    have HZD := fun w' => Lib.hid (zd s m w' hms (by have := HSZ.out; omega) v W hd)
    have HDV := Lib.hid hd
    clear H2 H3 H4 H5 HS0 HS1 HS2 HS3 hd
    have hXs : x'.s = s := H6.out.2.1
    have hXst : x'.st = 0 := H6.out.2.2.1
    have hmW : m + W ≤ s.size := by have := decAt_le s m hms; rw [HDV.out] at this; exact this
    have hsb := HSZ.out
    have hmb : m ≤ 524292 := by have := HCM.out.2.1; omega
    obtain ⟨C, hC⟩ : ∃ C, cntNL s m = C := ⟨_, rfl⟩
    have hCm : C ≤ m := by rw [← hC]; exact cntNL_le s m
    obtain ⟨NL, hNL⟩ : ∃ NL, C + (if v = 10 then 1 else 0) = NL := ⟨_, rfl⟩
    have hnl : ((x'.at 0 m).nl : Nat) = NL := by
      show cntNL x'.s (m + (decAt x'.s m).2) - 0 = NL
      rw [hXs, Nat.sub_zero, cnt_dec s m hms, hC, HDV.out]
      exact hNL
    have HCP : Hid (∀ k, Calls Tryd.prog 11 #[.pointer (some ⟨p, 0, none⟩)] (w6.drewN k) fun e w' => e = .returned (.int .i32 v) ∧ w' = w6.drewN k) := Lib.hid (fun k => by
      have := css_cp p (x'.at 0 m) (w6.drewN k) (HLX.out.drewN k).css
      rw [show (x'.at 0 m).cp = v by show (decAt x'.s m).1 = v; rw [hXs, HDV.out]] at this
      exact this)
    have HCU : Hid (∀ k, Calls Tryd.prog 12 #[.pointer (some ⟨p, 0, none⟩)] (w6.drewN k) fun e w' => e = .returned (.int .i64 ((m : Int) + W)) ∧ w' = w6.drewN k) := Lib.hid (fun k => by
      have := css_cur p (x'.at 0 m) (w6.drewN k) (HLX.out.drewN k).css
      rw [show (x'.at 0 m).cur = m + W by show m + (decAt x'.s m).2 = m + W; rw [hXs, HDV.out], Int.natCast_add] at this
      exact this)
    have HTK : Hid (∀ k, Calls Tryd.prog 13 #[.pointer (some ⟨p, 0, none⟩)] (w6.drewN k) fun e w' => e = .returned (.agg #[.int .i32 0, .int .i32 m, .int .u16 x'.un, .int .u8 x'.kd, .int .u8 x'.fl]) ∧ Below (w6.drewN k).heap.size (w6.drewN k) w') := Lib.hid (fun k => by
      have := css_tok p (x'.at 0 m) (w6.drewN k) (HLX.out.drewN k).css
      rw [show (x'.at 0 m).st = 0 from hXst, show (x'.at 0 m).ln = m by show m - x'.st = m; rw [hXst]; rfl] at this
      exact this)
    have HCN : Hid (∀ w', Calls Tryd.prog 14 #[.string (s.extract 0 m), .int .u8 10] w' fun e w'' => e = .returned (.int .i64 C) ∧ w'' = w') := Lib.hid (fun w' => by
      have hz : (s.extract 0 m).size = m := by simp; omega
      have := cnl_any (s.extract 0 m) w' (by omega)
      rw [hz, cntNL_ext s m hms m (Nat.le_refl _), hC] at this
      exact this)
    have HNL := Lib.hid hnl
    have HNV := Lib.hid hNL
    have hW4 : (m : Int) + W ≤ 1048580 := by omega
    clear hnl hC hNL hXs hXst hsb hmW h1 h2 h d1 d2
    go_upto_if 77 with (first
      | (go_at_call 10; refine (HZD _).out.mono ?_; rintro e w7 ⟨rfl, k7, rfl⟩)
      | (go_at_call 11; refine (HCP.out k7).mono ?_; rintro e w8 ⟨rfl, rfl⟩)
      | (go_at_call 12; refine (HCU.out k7).mono ?_; rintro e w8 ⟨rfl, rfl⟩))
    go_upto_region 18 with (go_at_call 13; refine (HTK.out k7).mono ?_; rintro e w9 ⟨rfl, hb9⟩; have H9 := Lib.hid hb9; clear hb9)
    obtain ⟨tb, htb⟩ : ∃ tb, w9.heap.size = tb := ⟨_, rfl⟩
    obtain ⟨wt, hwt⟩ : ∃ wt, w9.alloc (.cells #[.int .i32 0, .int .i32 m, .int .u16 x'.un, .int .u8 x'.kd, .int .u8 x'.fl] 41) = wt := ⟨_, rfl⟩
    have hb6t : Below w6.heap.size w6 wt := by
      have h9 : Below w6.heap.size w6 w9 := (show Below w6.heap.size w6 (w6.drewN k7) from ⟨rfl, rfl, rfl, Nat.le_refl _, fun _ _ => rfl⟩).trans H9.out
      rw [← hwt]
      exact h9.alloc h9.size _
    have HT6 := Lib.hid hb6t
    have t0 : wt.cell? ⟨tb, 0, none⟩ = some (.int .i32 0) := by rw [← hwt, ← htb]; exact (Blk.new w9 41 _).cell 0
    have t1 : wt.cell? ⟨tb, 1, none⟩ = some (.int .i32 m) := by rw [← hwt, ← htb]; exact (Blk.new w9 41 _).cell 1
    rw [hwt, htb]
    have HLT : Hid (Lex wt p x' 0 m) := Lib.hid (HLX.out.kept hb6t)
    clear hwt htb hb6t H9 HCP HCU HTK HZD
    go_upto_region 21 with (go_at_call 14; refine (HCN.out _).mono ?_; rintro e w10 ⟨rfl, rfl⟩)
    clear t0 t1 HCN
    obtain ⟨wt, rfl⟩ : ∃ wt, wt = w10 := ⟨_, rfl⟩
    go_upto_if 98 with fail
    go_cut [13] (fun a wx => a = .int .i64 NL ∧ wx = wt)
    case first =>
      rcases (show v = 10 ∨ v ≠ 10 by omega) with hv | hv
      · have hNi : ((C : Int) + 1) = (NL : Int) := by have := HNV.out; rw [if_pos hv] at this; omega
        have t1 : (v == 10) = true := by rw [hv]; rfl
        clear hv
        go_wp2_with fail
        go_meet
        exact ⟨rfl, rfl⟩
      · have hNi : C = NL := by have := HNV.out; rw [if_neg hv] at this; omega
        have t1 : (v == 10) = false := beq_eq_false_iff_ne.2 hv
        subst hNi
        clear hv
        go_wp2_with fail
        go_meet
        exact ⟨rfl, rfl⟩
    case rest =>
    obtain ⟨rfl, rfl⟩ := hcut
    have HCL : Hid (Calls Tryd.prog 15 #[.pointer (some ⟨p, 0, none⟩)] wc fun e w' => e = .returned (.int .i64 NL) ∧ w' = wc) := Lib.hid (by
      have := css_nl p (x'.at 0 m) wc HLT.out.css
      rw [HNL.out] at this
      exact this)
    go_upto_if 105 with (go_at_call 15; refine HCL.out.mono ?_; rintro e w11 ⟨rfl, rfl⟩)
    obtain ⟨wt, rfl⟩ : ∃ wt, wt = w11 := ⟨_, rfl⟩
    go_cut [14, 15] (fun a b wx => ∃ k, wx = wt.drewN k)
    case first =>
      rcases H6.out.2.2.2.2.2.1 with ⟨hr, g, cap, hal, hc0, hc1⟩ | ⟨hr, hal⟩
      · obtain rfl : r = true := hr
        have hg0 := World.block_lt_of_cell? w6 _ hc0
        have HC16 := Lib.hid (css_count p (x'.at 0 m) _ 1 cap wt HLT.out.css hal)
        have HC17 := Lib.hid (css_at0 p g cap m (x'.at 0 m) wt HLT.out.css hal ((HT6.out.cell (p := ⟨g, 0, none⟩) hg0).trans hc0) ((HT6.out.cell (p := ⟨g, 1, none⟩) hg0).trans (by rw [hc1, HCM.out.2.1])))
        clear hal hc0 hc1
        go_wp2_with (first
          | (go_at_call 16; refine HC16.out.mono ?_; rintro e w12 ⟨rfl, rfl⟩)
          | (go_at_call 17; refine HC17.out.mono ?_; rintro e w12 ⟨rfl, k, rfl⟩))
        go_meet
        exact ⟨_, rfl⟩
      · obtain rfl : r = false := hr
        have HC16 := Lib.hid (css_count p (x'.at 0 m) _ 0 0 wt HLT.out.css hal)
        clear hal
        go_wp2_with (go_at_call 16; refine HC16.out.mono ?_; rintro e w12 ⟨rfl, rfl⟩)
        go_meet
        exact ⟨0, rfl⟩
    case rest =>
    obtain ⟨k8, rfl⟩ := hcut
    have HLG := Lib.hid (css_legal p (x'.at 0 m) none 0 0 (wt.drewN k8) (HLT.out.drewN k8).css H6.out.2.2.2.1)
    have HURL := Lib.hid (css_url p (x'.at 0 m) (wt.drewN k8) (HLT.out.drewN k8).css)
    have HFIN : Hid (∀ k, Below w.heap.size w (wt.drewN k)) := Lib.hid (fun k => bdr (HGB.out.1.trans (HT6.out.mono HGB.out.1.size)) k)
    rcases H6.out.2.2.2.2.1 with ⟨hu, f1, f2, f3⟩ | ⟨hu, f1, f2, f3⟩
    · have hB19 : 19 ≤ bd.size := hu.2.1
      have hx : bd.extract 1 19 = ⟨#[32, 115, 111, 117, 114, 99, 101, 77, 97, 112, 112, 105, 110, 103, 85, 82, 76, 61]⟩ := by
        have hz : (bd.extract 1 19).size = 18 := by simp; omega
        refine ba_ext (by rw [hz]; rfl) (fun i hi => ?_)
        rw [byteAt_ext bd 1 19 i hB19 (by omega)]
        exact hu.2.2 i (by show i < 18; omega)
      have hKb := HCM.out.2.2.1
      obtain ⟨T, hT⟩ : ∃ T, bd.extract 19 (19 + K) = T := ⟨_, rfl⟩
      have hTs : T.size = K := by rw [← hT]; simp; omega
      have hK5 : K ≤ 524288 := by omega
      have hTT : (T == T) = true := (bytes_beq' T T).2 rfl
      have HUR2 : Hid (Calls Tryd.prog 19 #[.pointer (some ⟨p, 0, none⟩)] (wt.drewN k8) fun e w' => e = .returned (.tuple #[.string T, .int .i32 21, .int .i32 K]) ∧ ∃ k, w' = wt.drewN k) := Lib.hid (HURL.out.mono (fun e w' h => ⟨by
        rw [h.1, ← hT]
        show Ending.returned (.tuple #[.string x'.mt, .int .i32 x'.ms, .int .i32 x'.ml]) = _
        rw [f1, f2, f3], by obtain ⟨k, hk⟩ := h.2; exact ⟨k8 + k, by rw [hk]; first | rfl | simp⟩⟩))
      have h0 : 0 < bd.size := by omega
      have eb0 := byteAt_get bd 0 h0
      have d19 : decide ((19 : Int) ≤ (bd.size : Int)) = true := decide_eq_true (by omega)
      have d19' : decide (19 ≤ bd.size) = true := decide_eq_true (by omega)
      have hxx : (bd.extract 1 19 == (⟨#[32, 115, 111, 117, 114, 99, 101, 77, 97, 112, 112, 105, 110, 103, 85, 82, 76, 61]⟩ : ByteArray)) = true := (bytes_beq' _ _).2 hx
      clear f1 f2 f3 HURL
      go_upto_region 38 with (first
        | (go_at_call 18; refine HLG.out.mono ?_; rintro e w13 ⟨rfl, rfl⟩)
        | (go_at_call 19; refine HUR2.out.mono ?_; rintro e w13 ⟨rfl, kz, rfl⟩))
      rcases hu.1 with hb0 | hb0
      · rw [hb0] at eb0
        clear hb0 hu
        go_upto_region 40 with fail
        go_loopg [21] K (fun k a wr => ∃ i : Nat, a = .int .i64 ((19 + i : Nat) : Int) ∧ i ≤ K ∧ K - i ≤ k ∧ wr = wt.drewN kz)
        case atStart => exact ⟨0, rfl, Nat.zero_le _, Nat.le_refl _, rfl⟩
        case round =>
          obtain ⟨i, rfl, hiK, hik, rfl⟩ := hrel
          rcases (show i = K ∨ i < K by omega) with rfl | hlt
          · obtain ⟨j, hj⟩ : ∃ j, 19 + i = j := ⟨_, rfl⟩
            rw [hj] at hT ⊢
            rcases (show j = bd.size ∨ j < bd.size by have := HCM.out.2.2.1; omega) with hje | hje
            · have e1 : decide ((j : Int) < (bd.size : Int)) = false := decide_eq_false (by omega)
              have e2 : decide (j < bd.size) = false := decide_eq_false (by omega)
              have e3 : j ≤ bd.size := by omega
              have e4 : 19 ≤ j := by omega
              have HJ := Lib.hid hj
              clear hje hj
              go_wp2_with fail
              go_ret
              exact ⟨rfl, HFIN.out _⟩
            · have eb := byteAt_get bd j hje
              have hws : isWS (byteAt bd j : Int) = true := by
                rcases HCM.out.2.2.2.2 with h | h
                · omega
                · rw [← hj]; exact h
              obtain ⟨b, hb⟩ : ∃ b, byteAt bd j = b := ⟨_, rfl⟩
              rw [hb] at eb hws
              have HWS := Lib.hid hws
              have hbl : b < 256 := by rw [← hb]; exact byteAt_lt _ _
              have e4 : 19 ≤ j := by omega
              have HJ := Lib.hid hj
              clear hb hws hj
              go_wp2_with (go_at_call 20; refine (zws_any (b : Int) _).mono ?_; rintro e w' ⟨rfl, rfl⟩; rw [HWS.out])
              go_ret
              exact ⟨rfl, HFIN.out _⟩
          · obtain ⟨j, hj⟩ : ∃ j, 19 + i = j := ⟨_, rfl⟩
            have hjb : j < bd.size := by have := HCM.out.2.2.1; omega
            have eb := byteAt_get bd j hjb
            have hws := HCM.out.2.2.2.1 i hlt
            rw [hj] at hws ⊢
            obtain ⟨b, hb⟩ : ∃ b, byteAt bd j = b := ⟨_, rfl⟩
            rw [hb] at eb hws
            have HWS := Lib.hid hws
            have hbl : b < 256 := by rw [← hb]; exact byteAt_lt _ _
            have HJ := Lib.hid hj
            clear hb hws hj
            go_wp2_with (go_at_call 20; refine (zws_any (b : Int) _).mono ?_; rintro e w' ⟨rfl, rfl⟩; rw [HWS.out])
            go_roundg (K - (i + 1))
            case measure => omega
            case rel => exact ⟨i + 1, by have := HJ.out; first | (congr 1; omega) | go_num, hlt, Nat.le_refl _, rfl⟩
      · rw [hb0] at eb0
        clear hb0 hu
        go_upto_region 40 with fail
        go_loopg [21] K (fun k a wr => ∃ i : Nat, a = .int .i64 ((19 + i : Nat) : Int) ∧ i ≤ K ∧ K - i ≤ k ∧ wr = wt.drewN kz)
        case atStart => exact ⟨0, rfl, Nat.zero_le _, Nat.le_refl _, rfl⟩
        case round =>
          obtain ⟨i, rfl, hiK, hik, rfl⟩ := hrel
          rcases (show i = K ∨ i < K by omega) with rfl | hlt
          · obtain ⟨j, hj⟩ : ∃ j, 19 + i = j := ⟨_, rfl⟩
            rw [hj] at hT ⊢
            rcases (show j = bd.size ∨ j < bd.size by have := HCM.out.2.2.1; omega) with hje | hje
            · have e1 : decide ((j : Int) < (bd.size : Int)) = false := decide_eq_false (by omega)
              have e2 : decide (j < bd.size) = false := decide_eq_false (by omega)
              have e3 : j ≤ bd.size := by omega
              have e4 : 19 ≤ j := by omega
              have HJ := Lib.hid hj
              clear hje hj
              go_wp2_with fail
              go_ret
              exact ⟨rfl, HFIN.out _⟩
            · have eb := byteAt_get bd j hje
              have hws : isWS (byteAt bd j : Int) = true := by
                rcases HCM.out.2.2.2.2 with h | h
                · omega
                · rw [← hj]; exact h
              obtain ⟨b, hb⟩ : ∃ b, byteAt bd j = b := ⟨_, rfl⟩
              rw [hb] at eb hws
              have HWS := Lib.hid hws
              have hbl : b < 256 := by rw [← hb]; exact byteAt_lt _ _
              have e4 : 19 ≤ j := by omega
              have HJ := Lib.hid hj
              clear hb hws hj
              go_wp2_with (go_at_call 20; refine (zws_any (b : Int) _).mono ?_; rintro e w' ⟨rfl, rfl⟩; rw [HWS.out])
              go_ret
              exact ⟨rfl, HFIN.out _⟩
          · obtain ⟨j, hj⟩ : ∃ j, 19 + i = j := ⟨_, rfl⟩
            have hjb : j < bd.size := by have := HCM.out.2.2.1; omega
            have eb := byteAt_get bd j hjb
            have hws := HCM.out.2.2.2.1 i hlt
            rw [hj] at hws ⊢
            obtain ⟨b, hb⟩ : ∃ b, byteAt bd j = b := ⟨_, rfl⟩
            rw [hb] at eb hws
            have HWS := Lib.hid hws
            have hbl : b < 256 := by rw [← hb]; exact byteAt_lt _ _
            have HJ := Lib.hid hj
            clear hb hws hj
            go_wp2_with (go_at_call 20; refine (zws_any (b : Int) _).mono ?_; rintro e w' ⟨rfl, rfl⟩; rw [HWS.out])
            go_roundg (K - (i + 1))
            case measure => omega
            case rel => exact ⟨i + 1, by have := HJ.out; first | (congr 1; omega) | go_num, hlt, Nat.le_refl _, rfl⟩
    · have HUR2 : Hid (Calls Tryd.prog 19 #[.pointer (some ⟨p, 0, none⟩)] (wt.drewN k8) fun e w' => e = .returned (.tuple #[.string ⟨#[]⟩, .int .i32 0, .int .i32 0]) ∧ ∃ k, w' = wt.drewN k) := Lib.hid (HURL.out.mono (fun e w' h => ⟨by
        rw [h.1]
        show Ending.returned (.tuple #[.string x'.mt, .int .i32 x'.ms, .int .i32 x'.ml]) = _
        rw [f1, f2, f3]; rfl, by obtain ⟨k, hk⟩ := h.2; exact ⟨k8 + k, by rw [hk]; first | rfl | simp⟩⟩))
      have hEE : ((⟨#[]⟩ : ByteArray) == (⟨#[]⟩ : ByteArray)) = true := (bytes_beq' _ _).2 rfl
      clear f1 f2 f3 HURL
      go_upto_region 38 with (first
        | (go_at_call 18; refine HLG.out.mono ?_; rintro e w13 ⟨rfl, rfl⟩)
        | (go_at_call 19; refine HUR2.out.mono ?_; rintro e w13 ⟨rfl, kz, rfl⟩))
      rcases (show bd.size < 19 ∨ 19 ≤ bd.size by omega) with hB | hB
      · have d19 : decide ((19 : Int) ≤ (bd.size : Int)) = false := decide_eq_false (by omega)
        have d19' : decide (19 ≤ bd.size) = false := decide_eq_false (by omega)
        clear hu
        go_wp2_with fail
        go_ret
        exact ⟨rfl, HFIN.out _⟩
      · have d19 : decide ((19 : Int) ≤ (bd.size : Int)) = true := decide_eq_true (by omega)
        have d19' : decide (19 ≤ bd.size) = true := decide_eq_true (by omega)
        have h0 : 0 < bd.size := by omega
        have eb0 := byteAt_get bd 0 h0
        by_cases hx : bd.extract 1 19 = ⟨#[32, 115, 111, 117, 114, 99, 101, 77, 97, 112, 112, 105, 110, 103, 85, 82, 76, 61]⟩
        · have hnb : ¬ (byteAt bd 0 = 35 ∨ byteAt bd 0 = 64) := fun c => hu ⟨c, hB, fun j hj => by
            have hj' : j < 18 := hj
            rw [← byteAt_ext bd 1 19 j hB (by omega), hx]; rfl⟩
          obtain ⟨b, hb⟩ : ∃ b, byteAt bd 0 = b := ⟨_, rfl⟩
          rw [hb] at eb0 hnb
          have q1 : ((b : Int) == 35) = false := beq_eq_false_iff_ne.2 (by omega)
          have q2 : ((b : Int) == 64) = false := beq_eq_false_iff_ne.2 (by omega)
          clear hb hu hnb hx
          go_wp2_with fail
          go_ret
          exact ⟨rfl, HFIN.out _⟩
        · have hxx : ((bd.extract 1 19).toList == [32, 115, 111, 117, 114, 99, 101, 77, 97, 112, 112, 105, 110, 103, 85, 82, 76, 61]) = false := by
            rw [Bool.eq_false_iff]
            intro c
            have c2 := eq_of_beq c
            rw [Lib.toList_data] at c2
            exact hx (ByteArray.ext (Array.ext' c2))
          obtain ⟨b, hb⟩ : ∃ b, byteAt bd 0 = b := ⟨_, rfl⟩
          rw [hb] at eb0
          clear hb hu
          rcases (show b = 35 ∨ (b ≠ 35 ∧ b = 64) ∨ (b ≠ 35 ∧ b ≠ 64) by omega) with rfl | ⟨_, rfl⟩ | ⟨c1, c2⟩
          · go_wp2_with fail
            go_ret
            exact ⟨rfl, HFIN.out _⟩
          · go_wp2_with fail
            go_ret
            exact ⟨rfl, HFIN.out _⟩
          · have q1 : ((b : Int) == 35) = false := beq_eq_false_iff_ne.2 (by omega)
            have q2 : ((b : Int) == 64) = false := beq_eq_false_iff_ne.2 (by omega)
            go_wp2_with fail
            go_ret
            exact ⟨rfl, HFIN.out _⟩
  · go_wp2_with fail
    go_ret
    exact ⟨rfl, rfl, rfl, rfl, Nat.le_refl _, fun _ _ => rfl⟩
theorem law_all (bd tl : ByteArray) (r : Bool) (w : World) (hb : bd.size ≤ maxLen) (ht : tl.size ≤ maxLen) (h : Lib.Utf8Tabs 0 1 w) : Calls Tryd.prog 3 #[.string bd, .string tl, .bool r] w (LawTrue w) := by
  by_cases h1 : 1048576 < bd.size + tl.size
  · exact bad1 bd tl r w h1 hb ht
  by_cases h2 : 524288 < bd.size ∨ 524288 < tl.size
  · exact bad2 bd tl r w (by omega) h2
  by_cases h3 : Has bd ⟨#[42, 47]⟩
  · exact bad3 bd tl r w (by omega) (by omega) (by omega) h3
  · exact law_main bd tl r w (by omega) (by omega) (by omega) h3 h
end Go.Proofs.YtfpiokpdpdokjaaDoor
