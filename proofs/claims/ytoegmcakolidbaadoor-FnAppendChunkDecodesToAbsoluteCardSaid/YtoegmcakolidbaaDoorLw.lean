/-
  FnAppendChunk's law, walked. No statement of the seat is proved here.
-/
import Derived.Test.YtoegmcakolidbaaDoorAs
import Derived.Test.YtoegmcakolidbaaDoorPs
import Derived.Test.YtoegmcakolidbaaDoorRd
import Derived.Test.YtoegmcakolidbaaDoorLv
namespace Go.Proofs.YtoegmcakolidbaaDoor
open Go.RowKit
set_option linter.unusedVariables false
theorem below_st {w w1 w2 : World} (h : Below w.heap.size w w1) (hb : Below w1.heap.size w1 w2) : Below w.heap.size w w2 := h.trans (hb.mono h.size)
theorem Fr.below {w w' : World} {j : Nat} {v v' : Value} (h : Fr w j v w' v') (hj : j ≤ w.heap.size) (ho : ∀ g, v.ownBlock = some g → j ≤ g) : Below j w w' :=
  ⟨h.os, h.tape, h.output, h.size, fun i hi => h.block i (by omega) (by omega) (fun e => by have := ho _ e; omega)⟩
theorem ownP_form {w : World} {B : Nat} {v : Value} {ts : List Pc} (h : OwnP w B v ts) (hn : 1 ≤ ts.length) : ∃ g cap, v = .slice (some ⟨g, 0, none⟩) ts.length cap := by
  obtain ⟨h1, h2⟩ := h
  rcases h2 with ⟨rfl, h0⟩ | ⟨g, cap, cur, rfl, _⟩
  · omega
  · exact ⟨_, _, rfl⟩
theorem Jc.zero {w : World} {j : Nat} (h : Blk w j 38 #[.slice none 0 0, .slice none 0 0, .int .u32 0, .int .u8 0]) : Jc w j (.slice none 0 0) [] [] 0 :=
  ⟨⟨h, World.ownsRow_nil w _ _ _⟩, rfl, fun k t xs h1 h2 => by simp at h1⟩
theorem Cloned.to {k : IntKind} {e : TypeId} {w : World} {zs : List Int} {n : Nat} {en : Ending} {w' : World} (hn : zs.length = n) (h : Cloned k e w zs en w') : ∃ ao cap, en = .returned (.slice ao n cap) ∧ In k w' ao zs ∧ Below w.heap.size w w' := by
  obtain ⟨ao, cap, h1, h2, h3⟩ := h
  exact ⟨ao, cap, by rw [h1, hn], Cloned.in' h2, h3⟩
/-- the joiner's state with the text T -/
def LJ (j : Nat) (T : List Int) (lo hi : Nat) (wB wc : World) : Prop :=
  ∃ (v : Value) (ts : List Pc) (xss : List (List Int)) (lb : Int), Jc wc j v ts xss lb ∧ xss.flatten = T ∧ lo ≤ xss.length ∧ xss.length ≤ hi ∧ Below j wB wc
theorem lj_add {j : Nat} {xs : List Int} {wB w' : World} {v' : Value} {t : Pc} {lb : Int} (hj : wB.heap.size = j + 1) (h : Jc w' j v' ([] ++ [t]) ([] ++ [xs]) lb) (hf : Fr wB j (.slice none 0 0) w' v') : LJ j xs 0 1 wB w' :=
  ⟨v', _, _, _, h, by simp, by simp, by simp, hf.below (by omega) (fun g e => by cases e)⟩
theorem lj_below {j lo hi : Nat} {T : List Int} {wB wc : World} (h : LJ j T lo hi wB wc) : Below j wB wc := by
  obtain ⟨_, _, _, _, _, _, _, _, h⟩ := h
  exact h
theorem tailY_len (δ : Int) {Y : List Int} {nm : Option (List Int × Int × List Int)} (h : Cut Y nm) : (tailY δ Y nm).length ≤ Y.length + 7 := by
  cases h with
  | no => simp [tailY]
  | yes mid e Y2 hY =>
    subst hY
    have := (enc_len (e + δ)).2
    simp [tailY]; omega
/-- the reader's state -/
def GR (P : Stt) (az : List Int) (E : List (List Int)) (wz : World) (k : Nat) (v17 v18 v19 v20 v21 v22 v23 v24 : Value) (wr : World) : Prop :=
  ∃ (l : List Tg) (p : Bool) (LN CO SR OL OC ON : Int) (pos sg : Nat), Rd P az E l p ⟨LN, CO, SR, OL, OC, ON⟩ pos sg ∧ az.length - pos ≤ k ∧ v17 = .int .i64 LN ∧ v18 = .int .i64 CO ∧ v19 = .int .i64 SR ∧ v20 = .int .i64 OL ∧ v21 = .int .i64 OC ∧ v22 = .int .i64 ON ∧ v23 = .int .i64 sg ∧ v24 = .int .i64 pos ∧ Below wz.heap.size wz wr
set_option maxRecDepth 100000 in
set_option maxHeartbeats 20000000 in
theorem law_main (a0 a3 a4 : Option Addr) (c0 c3 c4 n0 n3 n4 : Nat) (p s : St) (pb : Bool) (xs ds ks : List Int) (w : World) (hx : In .u8 w a0 xs) (hd : In .i32 w a3 ds) (hk : In .u8 w a4 ks) (lx : xs.length = n0) (ld : ds.length = n3) (lk : ks.length = n4)
    (h : n0 + n3 + n4 ≤ 1048576) (k0 : n0 ≤ 65536) (k3 : n3 ≤ 20480) (k4 : n4 ≤ 65536) (k5 : 5 ≤ n3) (g0 : 0 ≤ s.gl) (g1 : s.gl ≤ 4096) (hp : OkS p) (hs : OkS s) (ht : Tab w w.heap.size) :
    Calls Tryd.prog 3 #[.slice a0 n0 c0, .agg (sCells p pb), .agg (sCells s false), .slice a3 n3 c3, .slice a4 n4 c4] w (LawTrue w) := by
  have HB := fun w' => Lib.hid (bytes_yes a0 a3 a4 c0 c3 c4 n0 n3 n4 p s pb false w' h)
  have HS := Lib.hid (Bx.start w p s pb false)
  have HQ : Hid (∀ (gl gc si ol oc on : Int) (b : Bool) (w' : World), OkS ⟨gl, gc, si, ol, oc, on⟩ → Calls Tryd.prog 5 #[.agg #[.int .i64 gl, .int .i64 gc, .int .i64 si, .int .i64 ol, .int .i64 oc, .int .i64 on, .bool b], .int .i64 16777216] w' fun e w'' => e = .returned (.bool true) ∧ Below w'.heap.size w' w'') := Lib.hid (fun gl gc si ol oc on b w' h => so_yes ⟨gl, gc, si, ol, oc, on⟩ b w' h)
  have HIN := Lib.hid (And.intro hx (And.intro hd (And.intro hk (And.intro lx (And.intro ld lk)))))
  have HOK := Lib.hid (And.intro hp (And.intro hs ht))
  obtain ⟨L, hL⟩ : ∃ L : Nat, s.gl = L := ⟨s.gl.toNat, by omega⟩
  obtain ⟨pgl, pgc, psi, pol, poc, pon⟩ := p
  obtain ⟨sgl, sgc, ssi, sol, soc, son⟩ := s
  simp only at hL g0 g1
  subst hL
  have hL2 : L ≤ 4096 := by omega
  clear g0 g1 hp hs hx hd hk lx ld lk
  unfold sCells at HB ⊢
  unfold sCells at HS
  simp only at HB HS ⊢
  have d1 : decide (65536 < n0) = false := decide_eq_false (by omega)
  have d2 : decide (20480 < n3) = false := decide_eq_false (by omega)
  have d3 : decide (65536 < n4) = false := decide_eq_false (by omega)
  have d4 : decide ((1048576 : Int) < (n0 : Int) + 4 * (n3 : Int) + (n4 : Int)) = false := decide_eq_false (by omega)
  have e1 : decide (n3 < 5) = false := decide_eq_false (by omega)
  have e2 : decide (4096 < (L : Int)) = false := decide_eq_false (by omega)
  have e2' : decide (4096 < L) = false := decide_eq_false (by omega)
  have HIO : Hid (∀ w', Below w.heap.size w w' → Calls Tryd.prog 6 #[.slice a3 n3 c3, .int .i32 4096] w' fun e w'' => ∃ b : Bool, e = .returned (.bool b) ∧ (b = true → ∀ z ∈ ds, -4096 ≤ z ∧ z ≤ 4096) ∧ w' = w'') := Lib.hid (fun w' hb => io_ex a3 c3 n3 ds w' HIN.out.2.2.2.2.1 (HIN.out.2.1.kept hb) (by omega))
  go_enter Tryd.func3, Tryd.ntmps3
  go_upto_region 11 with (go_at_call 4; refine (HB _).out.mono ?_; rintro e w4 ⟨rfl, hb⟩; have HW := Lib.hid (HS.out.below hb); have x0 : w4.cell? ⟨w.heap.size + 1, 0, none⟩ = some (.int .i64 L) := HW.out.bs.cell 0; have x6 : w4.cell? ⟨w.heap.size + 1, 6, none⟩ = some (.bool false) := HW.out.bs.cell 6; clear hb)
  clear x0 x6 HS HB
  have y0 : w4.cell? ⟨w.heap.size, 0, none⟩ = some (.int .i64 pgl) := HW.out.bp.cell 0
  have y1 : w4.cell? ⟨w.heap.size, 1, none⟩ = some (.int .i64 pgc) := HW.out.bp.cell 1
  have y2 : w4.cell? ⟨w.heap.size, 2, none⟩ = some (.int .i64 psi) := HW.out.bp.cell 2
  have y3 : w4.cell? ⟨w.heap.size, 3, none⟩ = some (.int .i64 pol) := HW.out.bp.cell 3
  have y4 : w4.cell? ⟨w.heap.size, 4, none⟩ = some (.int .i64 poc) := HW.out.bp.cell 4
  have y5 : w4.cell? ⟨w.heap.size, 5, none⟩ = some (.int .i64 pon) := HW.out.bp.cell 5
  have y6 : w4.cell? ⟨w.heap.size, 6, none⟩ = some (.bool pb) := HW.out.bp.cell 6
  go_upto_if 88 with (first
    | (go_at_call 5; refine (HQ.out _ _ _ _ _ _ _ _ (by first | exact HOK.out.1 | exact HOK.out.2.1)).mono ?_; rintro e w5 ⟨rfl, hb⟩; replace HW := Lib.hid (HW.out.below hb); clear hb y0 y1 y2 y3 y4 y5 y6; have y0 : w5.cell? ⟨w.heap.size + 1, 0, none⟩ = some (.int .i64 L) := HW.out.bs.cell 0; have y1 : w5.cell? ⟨w.heap.size + 1, 1, none⟩ = some (.int .i64 sgc) := HW.out.bs.cell 1; have y2 : w5.cell? ⟨w.heap.size + 1, 2, none⟩ = some (.int .i64 ssi) := HW.out.bs.cell 2; have y3 : w5.cell? ⟨w.heap.size + 1, 3, none⟩ = some (.int .i64 sol) := HW.out.bs.cell 3; have y4 : w5.cell? ⟨w.heap.size + 1, 4, none⟩ = some (.int .i64 soc) := HW.out.bs.cell 4; have y5 : w5.cell? ⟨w.heap.size + 1, 5, none⟩ = some (.int .i64 son) := HW.out.bs.cell 5; have y6 : w5.cell? ⟨w.heap.size + 1, 6, none⟩ = some (.bool false) := HW.out.bs.cell 6)
    | (go_at_call 6; refine (HIO.out _ HW.out.bel).mono ?_; rintro e w6' ⟨b, rfl, hbb, rfl⟩))
  have HW6 := HW
  clear HW y0 y1 y2 y3 y4 y5 y6 HQ HIO d1 d2 d3 d4 e1 e2 e2'
  rcases b with _ | _
  · go_wp2_with fail
    go_ret
    exact ⟨rfl, HW6.out.bel⟩
  have HDS : Hid (∀ z ∈ ds, P12 z) := Lib.hid (hbb rfl)
  clear hbb
  have HCX : Hid (∀ w', In .u8 w' a0 xs → Calls Tryd.prog 7 #[.slice a0 n0 c0] w' (fun e w'' => ∃ ao cap, e = .returned (.slice ao n0 cap) ∧ In .u8 w'' ao xs ∧ Below w'.heap.size w' w'')) := Lib.hid (fun w' hi => by
    have := cb_any a0 c0 xs w' hi (by rw [HIN.out.2.2.2.1]; omega)
    rw [HIN.out.2.2.2.1] at this
    exact this.mono (fun e w'' h => h.to HIN.out.2.2.2.1))
  have HCK : Hid (∀ w', In .u8 w' a4 ks → Calls Tryd.prog 7 #[.slice a4 n4 c4] w' (fun e w'' => ∃ ao cap, e = .returned (.slice ao n4 cap) ∧ In .u8 w'' ao ks ∧ Below w'.heap.size w' w'')) := Lib.hid (fun w' hi => by
    have := cb_any a4 c4 ks w' hi (by rw [HIN.out.2.2.2.2.2]; omega)
    rw [HIN.out.2.2.2.2.2] at this
    exact this.mono (fun e w'' h => h.to HIN.out.2.2.2.2.2))
  have HCD : Hid (∀ w', In .i32 w' a3 ds → Calls Tryd.prog 8 #[.slice a3 n3 c3] w' (fun e w'' => ∃ ao cap, e = .returned (.slice ao n3 cap) ∧ In .i32 w'' ao ds ∧ Below w'.heap.size w' w'')) := Lib.hid (fun w' hi => by
    have := ci_any a3 c3 ds w' hi (by rw [HIN.out.2.2.2.2.1]; omega)
    rw [HIN.out.2.2.2.2.1] at this
    exact this.mono (fun e w'' h => h.to HIN.out.2.2.2.2.1))
  go_upto_region 14 with (go_at_call 7; refine (HCX.out _ (HIN.out.1.kept HW6.out.bel)).mono ?_; rintro e w7 ⟨A0, C0, rfl, hi, hb⟩; have H7 := Lib.hid (And.intro hi hb); clear hi hb)
  go_upto_region 15 with (go_at_call 8; refine (HCD.out _ (HIN.out.2.1.kept (HW6.out.below H7.out.2).bel)).mono ?_; rintro e w8 ⟨A3, C3, rfl, hi, hb⟩; have H8 := Lib.hid (And.intro hi hb); clear hi hb)
  go_upto_region 16 with (go_at_call 7; refine (HCK.out _ (HIN.out.2.2.1.kept ((HW6.out.below H7.out.2).below H8.out.2).bel)).mono ?_; rintro e w9 ⟨A4, C4, rfl, hi, hb⟩; have H9 := Lib.hid (And.intro hi hb); clear hi hb)
  obtain ⟨n, hn⟩ : ∃ n, n3 / 5 = n := ⟨_, rfl⟩
  have hn1 : 1 ≤ n := by omega
  have hn2 : n ≤ 4096 := by omega
  have HW9 : Hid (Bx w ⟨pgl, pgc, psi, pol, poc, pon⟩ ⟨L, sgc, ssi, sol, soc, son⟩ pb false w9 ∧ In .u8 w9 A0 xs) := Lib.hid ⟨((HW6.out.below H7.out.2).below H8.out.2).below H9.out.2, (H7.out.1.kept H8.out.2).kept H9.out.2⟩
  have HBC9 : Hid (Calls Tryd.prog 9 #[.slice A3 n3 C3, .slice A4 n4 C4] w9 (IsBc ds ks n w9)) := Lib.hid (bc_any A3 A4 C3 C4 ds ks w9 (H8.out.1.kept H9.out.2) H9.out.1 n3 n4 n HIN.out.2.2.2.2.1 HIN.out.2.2.2.2.2 hn k3 k4 HDS.out)
  clear HCX HCK HCD H7 H8 H9 HW6
  go_upto_region 17 with (go_at_call 9; refine HBC9.out.mono ?_; rintro e w10 ⟨vz, fn, sb, rfl, hfn, hbw⟩; have H10 := Lib.hid (And.intro hfn hbw); clear hfn hbw)
  obtain ⟨q, a, b, c, d, r, rest, Y, nm, ht1, hr, hq1, ht2, pa, pb', pc, pd, hcut, hfnm, hcT⟩ := chunk_cut ds ks n fn (son - pon) (nth_p12 ds HDS.out) hn1 H10.out.1
  obtain ⟨zs, hzs⟩ : ∃ zs, txg false (toks ds ks n) = zs := ⟨_, rfl⟩
  have hbw := H10.out.2
  rw [hzs] at hbw ht2
  obtain ⟨gz, zc, hvz, hzin, hzlt, hzc, hgz⟩ : ∃ gz zc, vz = .slice (some ⟨gz, 0, none⟩) zs.length zc ∧ In .u8 w10 (some ⟨gz, 0, none⟩) zs ∧ gz < w10.heap.size ∧ zs.length ≤ zc ∧ sb + 1 ≤ gz := by
    obtain ⟨ao, cap, h1, h2, h3, h4⟩ := hbw.own.form
    have hl := (encs_len a b c d).1
    rcases h4 with ⟨_, h5, _⟩ | ⟨g, rfl, h5, h6⟩
    · have h6 := congrArg List.length h5
      rw [ht2] at h6
      simp only [List.length_append, List.length_nil] at h6
      omega
    · exact ⟨g, cap, h1, h2, h6, h3, h5⟩
  subst hvz
  obtain ⟨zn, hzn⟩ : ∃ zn, zs.length = zn := ⟨_, rfl⟩
  have hznb : zn ≤ 294912 := by rw [← hzn, ← hzs]; exact toks_txt_len ds ks n hn2
  rw [hzn] at hzc ⊢
  have HZ := Lib.hid (And.intro ht1 (And.intro hr (And.intro hq1 (And.intro ht2 (And.intro hcut (And.intro hfnm (And.intro hcT (And.intro hzs (And.intro hzn (And.intro hzin (And.intro hzlt (And.intro hzc (And.intro hgz (And.intro pa (And.intro pb' (And.intro pc pd))))))))))))))))
  have HW10 := Lib.hid (And.intro (HW9.out.1.below hbw.bel) (And.intro (HW9.out.2.kept hbw.bel) (And.intro hbw.blk (And.intro hbw.hsb hbw.lt))))
  have hlt10 := HW10.out.1.lt
  clear hr hq1 hcut hfnm hcT hzs hzn hzin hzlt hzc hgz pa pb' pc pd hbw H10 HW9 ht2
  go_upto_region 18 with fail
  obtain ⟨j, hj⟩ : ∃ j, w10.heap.size = j := ⟨_, rfl⟩
  obtain ⟨wB, hwB⟩ : ∃ wB, w10.alloc (.cells #[.slice none 0 0, .slice none 0 0, .int .u32 0, .int .u8 0] 38) = wB := ⟨_, rfl⟩
  have HJ : Hid (Below j w10 wB ∧ Jc wB j (.slice none 0 0) [] [] 0 ∧ wB.heap.size = j + 1 ∧ w.heap.size + 2 ≤ j ∧ gz < j ∧ sb < j ∧ w10.heap.size = j) := Lib.hid (by
    refine ⟨?_, ?_, ?_, by omega, by rw [← hj]; exact HZ.out.2.2.2.2.2.2.2.2.2.2.1, by have := HW10.out.2.2.2.2; omega, hj⟩
    · rw [← hwB, ← hj]; exact (Below.refl _ _).alloc (Nat.le_refl _) _
    · rw [← hwB, ← hj]; exact Jc.zero (Blk.new _ _ _)
    · rw [← hwB, ← hj]; simp)
  rw [hwB, hj]
  clear hwB hj hlt10
  have HA0 : Hid (xs ≠ [] → ∀ b o, A0 = some ⟨b, o, none⟩ → b ≠ j ∧ (Value.slice none 0 0).ownBlock ≠ some b) := Lib.hid (fun hne b o e => by
    obtain ⟨b', o', e1, e2, e3⟩ := HW10.out.2.1.at (i := 0) (List.length_pos_iff.2 hne)
    rw [e1] at e
    cases e
    exact ⟨by have := HJ.out.2.2.2.2.2.2; omega, by simp [Value.ownBlock]⟩)
  have HAD : Hid (Calls Tryd.prog 10 #[.pointer (some ⟨j, 0, none⟩), .slice A0 n0 C0] wB (IsJc j (.slice none 0 0) [] [] xs 0 wB)) := Lib.hid (by
    refine jc_add j _ [] [] 0 A0 n0 C0 xs wB HJ.out.2.1 HIN.out.2.2.2.1 ?_ HA0.out (by omega) (by simp) (by simp)
    have := HJ.out.1
    rw [← HJ.out.2.2.2.2.2.2] at this
    exact HW10.out.2.1.kept this)
  have HLX : Hid (xs.length = n0) := Lib.hid HIN.out.2.2.2.1
  go_upto_if 105 with fail
  go_cut [] (fun wc => LJ j xs 0 1 wB wc)
  case first =>
    rcases (show n0 = 0 ∨ 0 < n0 by omega) with hn0 | hn0
    · have e0 : decide ((0 : Int) < (n0 : Int)) = false := decide_eq_false (by omega)
      have e0' : decide (0 < n0) = false := decide_eq_false (by omega)
      go_wp2_with fail
      go_meet
      have hx0 : xs = [] := List.eq_nil_of_length_eq_zero (HLX.out.trans hn0)
      exact ⟨_, [], [], 0, HJ.out.2.1, by rw [hx0]; rfl, Nat.le_refl _, Nat.zero_le _, Below.refl _ _⟩
    · have e0 : decide ((0 : Int) < (n0 : Int)) = true := decide_eq_true (by omega)
      have e0' : decide (0 < n0) = true := decide_eq_true (by omega)
      go_wp2_with (go_at_call 10; refine HAD.out.mono ?_; rintro e wc ⟨v', t, rfl, hjc, hf⟩; have HC := Lib.hid (lj_add HJ.out.2.2.1 hjc hf); clear hjc hf)
      go_meet
      exact HC.out
  case rest =>
  clear HAD HA0
  obtain ⟨v, ts, xss, lb, hjc, hxf, _, hxl, hbc⟩ := hcut
  have HB10 : Hid (∀ w', Below j wB w' → Below w10.heap.size w10 w') := Lib.hid (fun w' hb => by rw [HJ.out.2.2.2.2.2.2]; exact HJ.out.1.trans hb)
  have HBX : Hid (∀ w', Below j wB w' → Bx w ⟨pgl, pgc, psi, pol, poc, pon⟩ ⟨L, sgc, ssi, sol, soc, son⟩ pb false w') := Lib.hid (fun w' hb => HW10.out.1.below (HB10.out w' hb))
  have hjl := hjc.lt
  have HSS : Hid (∀ w', Below wc.heap.size wc w' → Below j wB w') := Lib.hid (fun w' hb => hbc.trans (hb.mono (by omega)))
  obtain ⟨fo, h13, hfo⟩ : ∃ fo, (∀ w', Calls Tryd.prog 13 #[.slice (some ⟨gz, 0, none⟩) zn zc, .int .i64 fn] w' (fun e w'' => e = .returned (.agg #[.slice (some ⟨gz, 0, none⟩) zn zc, .int .u32 fo]) ∧ Below w'.heap.size w' w'')) ∧ FoOk (q + (encs a b c d).length) nm fo := by
    have hz := HZ.out
    have hfnm := hz.2.2.2.2.2.1
    have hct := hz.2.2.2.2.1
    have hlen := congrArg List.length hz.2.2.2.1
    rw [hz.2.2.2.2.2.2.2.2.1] at hlen
    simp only [List.length_append, List.length_replicate] at hlen
    match nm, hfnm, hct with
    | none, hfnm, _ => exact ⟨0, fun w' => by rw [show fn = -1 from hfnm]; exact buf_no _ _ _ w', rfl⟩
    | some (mid, e, Y2), hfnm, hct =>
      obtain ⟨h1, h2⟩ := hfnm
      cases hct with
      | yes _ _ _ hY =>
        have hYl := congrArg List.length hY
        simp only [List.length_append] at hYl
        exact ⟨_, fun w' => by rw [h1]; exact buf_yes _ _ _ _ w' (by omega), rfl, h2⟩
  have HT1 : Hid (∀ w', Calls Tryd.prog 12 #[.agg #[.int .i64 pgl, .int .i64 pgc, .int .i64 psi, .int .i64 pol, .int .i64 poc, .int .i64 pon, .bool pb]] w' (fun e w'' => e = .returned (.agg #[.int .i64 pgl, .int .i64 pgc, .int .i64 psi, .int .i64 pol, .int .i64 poc, .int .i64 pon, .bool pb]) ∧ Below w'.heap.size w' w'')) := Lib.hid (fun w' => tosm_any ⟨pgl, pgc, psi, pol, poc, pon⟩ pb w')
  have HT2 : Hid (∀ w', Calls Tryd.prog 12 #[.agg #[.int .i64 L, .int .i64 sgc, .int .i64 ssi, .int .i64 sol, .int .i64 soc, .int .i64 son, .bool false]] w' (fun e w'' => e = .returned (.agg #[.int .i64 L, .int .i64 sgc, .int .i64 ssi, .int .i64 sol, .int .i64 soc, .int .i64 son, .bool false]) ∧ Below w'.heap.size w' w'')) := Lib.hid (fun w' => tosm_any ⟨L, sgc, ssi, sol, soc, son⟩ false w')
  have H13 := Lib.hid h13
  have HAS : Hid (∀ w', Below wc.heap.size wc w' → Calls Tryd.prog 11 #[.pointer (some ⟨j, 0, none⟩), .agg #[.int .i64 pgl, .int .i64 pgc, .int .i64 psi, .int .i64 pol, .int .i64 poc, .int .i64 pon, .bool pb], .agg #[.int .i64 L, .int .i64 sgc, .int .i64 ssi, .int .i64 sol, .int .i64 soc, .int .i64 son, .bool false], .agg #[.slice (some ⟨gz, 0, none⟩) zn zc, .int .u32 fo]] w' (IsAs j v xss lb ⟨pgl, pgc, psi, pol, poc, pon⟩ ⟨L, sgc, ssi, sol, soc, son⟩ L q a b c d Y nm w')) := Lib.hid (by
    intro w' hb
    have hz := HZ.out
    have hJo := HJ.out
    have hbz := HB10.out w' (HSS.out w' hb)
    exact as_any pb j v ts xss lb ⟨pgl, pgc, psi, pol, poc, pon⟩ ⟨L, sgc, ssi, sol, soc, son⟩ L q a b c d Y nm gz 0 zn zc w.heap.size zs fo w' (hjc.kept hb) (HOK.out.2.2.below (HBX.out w' (HSS.out w' hb)).bel) (by omega) hz.2.2.2.2.2.2.2.2.1 (hz.2.2.2.2.2.2.2.2.2.1.kept hbz) hz.2.2.2.2.2.2.2.2.2.2.2.1
      (by have := hb.size; omega) (by omega) (fun e => by have := (World.ownsRow.lt hjc.jn.own _ e).1; omega) hz.2.2.2.1 rfl hL2 (by omega) (by rw [hxf, HLX.out]; omega) (by omega) hfo hz.2.2.2.2.1 hz.2.2.2.2.2.2.2.2.2.2.2.2.2.1 hz.2.2.2.2.2.2.2.2.2.2.2.2.2.2.1 hz.2.2.2.2.2.2.2.2.2.2.2.2.2.2.2.1 hz.2.2.2.2.2.2.2.2.2.2.2.2.2.2.2.2 HOK.out.1 HOK.out.2.1)
  obtain ⟨az, haz⟩ : ∃ az, List.replicate L 59 ++ (List.replicate q 59 ++ (cmq (if q = 0 then (if L = 0 then lb else 59) else 59) ++ (encs ((if q = 0 then sgc + a else a) - (if L = 0 ∧ q = 0 then pgc else 0)) (ssi + b - psi) (sol + c - pol) (soc + d - poc) ++ tailY (son - pon) Y nm))) = az := ⟨_, rfl⟩
  have HLE : Hid (∀ e w' we, Below wc.heap.size wc w' → IsAs j v xss lb ⟨pgl, pgc, psi, pol, poc, pon⟩ ⟨L, sgc, ssi, sol, soc, son⟩ L q a b c d Y nm w' e we → LJ j (xs ++ az) 2 7 wB we) := Lib.hid (by
    rintro e w' we hb ⟨v', ts', yss, lb', _, hj', hf, h2, h6, hfl⟩
    refine ⟨v', ts', yss, lb', hj', by rw [hfl, hxf, ← haz], by omega, by omega, (HSS.out w' hb).trans (hf.below (by have := hb.size; omega) (fun g e => by have := (World.ownsRow.lt hjc.jn.own _ e).1; omega))⟩)
  have HAZ := Lib.hid haz
  have HBC := Lib.hid hbc
  clear hjc hxf hxl hbc hjl h13 hfo haz
  go_upto_region 20 with fail
  go_cut [] (fun wd => LJ j (xs ++ az) 2 7 wB wd)
  case first => as_aux_lemma =>
    have hG : Below wc.heap.size wc wc.drew := (Below.refl _ _).drew
    refine wp_region_held_drew (S := Below j wB) (by kernel_rfl) (HSS.out _ hG) (fun hH => ?_)
    refine wpAnyH_take (i := 0) rfl (by kernel_rfl) (by kernel_rfl) (by kernel_rfl) (fun _ _ _ h => h) (yieldsIf_load_mid (by rfl) _ _ rfl w.heap.size 0 rfl [.int .i64 pgl, .int .i64 pgc, .int .i64 psi, .int .i64 pol, .int .i64 poc, .int .i64 pon, .bool pb] _ (fun w' h => (HBX.out w' h).bp.range) Tryd.underlying24 rfl (by kernel_rfl)) hH ?_
    simp only [Act.put, List.setIfInBounds_toArray]
    refine wpAnyH_take (i := 2) rfl (by kernel_rfl) (by kernel_rfl) (by kernel_rfl) (fun _ _ _ h => h) (yieldsIf_load_mid (by rfl) _ _ rfl (w.heap.size + 1) 0 rfl [.int .i64 L, .int .i64 sgc, .int .i64 ssi, .int .i64 sol, .int .i64 soc, .int .i64 son, .bool false] _ (fun w' h => (HBX.out w' h).bs.range) Tryd.underlying24 rfl (by kernel_rfl)) hH ?_
    simp only [Act.put]
    refine wpAnyH_take (i := 4) (v := .slice (some ⟨gz, 0, none⟩) zn zc) rfl (by kernel_rfl) (by kernel_rfl) (by kernel_rfl) (fun _ _ _ h => h) (Or.inl ⟨by rfl, fun w _ => by go_simp⟩) hH ?_
    simp only [Act.put]
    refine wpAnyH_take (i := 5) (v := .int .i64 fn) rfl (by kernel_rfl) (by kernel_rfl) (by kernel_rfl) (fun _ _ _ h => h) (Or.inl ⟨by rfl, fun w _ => by go_simp⟩) hH ?_
    simp only [Act.put]
    refine wpAnyH_ready (rs := [1]) (by kernel_rfl) (by simp) ?_
    refine AllReadyH.cons rfl (fun K hK => ?_) AllReadyH.nil
    go_simp
    refine (HT1.out _).mono ?_
    rintro e w' ⟨rfl, hb⟩
    have h1 := below_st hG hb
    clear hb
    go_wp2_with fail
    refine hK.out _ _ (HSS.out _ h1) (fun _ => ?_)
    clear hK K
    refine wpAnyH_ready (rs := [3]) (by kernel_rfl) (by simp) ?_
    refine AllReadyH.cons rfl (fun K hK => ?_) AllReadyH.nil
    go_simp
    refine (HT2.out _).mono ?_
    rintro e w' ⟨rfl, hb⟩
    have h2 := below_st h1 hb
    clear hb
    go_wp2_with fail
    refine hK.out _ _ (HSS.out _ h2) (fun _ => ?_)
    clear hK K
    refine wpAnyH_ready (rs := [6]) (by kernel_rfl) (by simp) ?_
    refine AllReadyH.cons rfl (fun K hK => ?_) AllReadyH.nil
    go_simp
    refine (H13.out _).mono ?_
    rintro e w' ⟨rfl, hb⟩
    have h3 := below_st h2 hb
    clear hb
    go_wp2_with fail
    refine hK.out _ _ (HSS.out _ h3) (fun _ => ?_)
    clear hK K
    refine wpAnyH_ready (rs := [7]) (by kernel_rfl) (by simp) ?_
    refine AllReadyH.cons rfl (fun K hK => ?_) AllReadyH.nil
    go_simp
    refine (HAS.out _ h3).mono ?_
    rintro e we hE
    have HE := Lib.hid (HLE.out _ _ _ h3 hE)
    obtain ⟨v9, ts9, yss9, lb9, rfl, _⟩ := hE
    have hHe := lj_below HE.out
    go_wp2_with fail
    refine hK.out _ _ hHe (fun _ => ?_)
    clear hK K
    refine wpAnyH_done (by kernel_rfl) ?_ _
    go_simp
    go_wp2_with fail
    go_meet
    exact HE.out
  case rest =>
  clear HAS HLE HT1 HT2 H13 HSS HBC
  obtain ⟨v, ts, yss, lb', hjc, hyf, hy2, hy7, hbd⟩ := hcut
  have hz := HZ.out
  have htl : 4 ≤ az.length ∧ az.length ≤ 400000 := by
    rw [← HAZ.out]
    have h1 := (encs_len ((if q = 0 then sgc + a else a) - (if L = 0 ∧ q = 0 then pgc else 0)) (ssi + b - psi) (sol + c - pol) (soc + d - poc))
    have h2 := tailY_len (son - pon) hz.2.2.2.2.1
    have h3 := congrArg List.length hz.2.2.2.1
    rw [hz.2.2.2.2.2.2.2.2.1] at h3
    have h4 : (cmq (if q = 0 then (if L = 0 then lb else 59) else 59)).length ≤ 1 := by
      generalize (if q = 0 then (if L = 0 then lb else 59) else 59) = t
      unfold cmq; split <;> simp
    have h5 := hz.2.2.1
    simp only [List.length_append, List.length_replicate] at h3 ⊢
    omega
  obtain ⟨na, hna⟩ : ∃ na, az.length = na := ⟨_, rfl⟩
  rw [hna] at htl
  obtain ⟨hna4, hna5⟩ := htl
  obtain ⟨N, hN⟩ : ∃ N, n0 + na = N := ⟨_, rfl⟩
  obtain ⟨vb, vcap, rfl⟩ := ownP_form hjc.jn.own (by rw [hjc.len]; omega)
  have HDN : Hid (Calls Tryd.prog 14 #[.pointer (some ⟨j, 0, none⟩)] wc (IsDone (xs ++ az) N wc)) := Lib.hid (by
    have := dn_any j vb ts.length vcap N ts yss lb' wc hjc rfl (by rw [hjc.len]; omega) (by rw [hjc.len]; omega) (by rw [hyf, List.length_append, HLX.out, hna]; exact hN) (by omega)
    rw [hyf] at this
    exact this)
  have HNA := Lib.hid hna
  have HBD := Lib.hid hbd
  have hlt0 : decide ((N : Int) < (n0 : Int)) = false := decide_eq_false (by omega)
  have hlt0' : decide (N < n0) = false := decide_eq_false (by omega)
  have hn0N : n0 ≤ N := by omega
  have hNb : N ≤ 1048576 := by omega
  clear hjc hyf hy2 hy7 hbd hz hna
  go_upto_region 22 with (go_at_call 14; refine HDN.out.mono ?_; rintro e we ⟨g, rfl, hg, hi, hb⟩; have H14 := Lib.hid (And.intro hg (And.intro hi hb)); clear hg hi hb)
  have HSM : Hid (Calls Tryd.prog 15 #[.slice (some ⟨g, 0, none⟩) n0 N, .slice A0 n0 C0] we fun e w' => e = .returned (.bool true) ∧ ∃ m, w' = we.drewN m) := Lib.hid (by
    refine sm_any _ _ _ _ _ xs we HLX.out (H14.out.2.1.sub (X := []) (Y := xs) (Z := az) rfl 0 (fun _ => rfl)) ?_ (by omega)
    exact (HW10.out.2.1.kept (HB10.out _ HBD.out)).kept H14.out.2.2)
  go_upto_if 130 with (go_at_call 15; refine HSM.out.mono ?_; rintro e wf ⟨rfl, m, hm⟩; have HM := Lib.hid hm; clear hm)
  have hNn : ¬ N = n0 := by omega
  have hBwf : Below wc.heap.size wc wf := by rw [HM.out]; exact H14.out.2.2.trans ⟨rfl, rfl, rfl, Nat.le_refl _, fun _ _ => rfl⟩
  have HF : Hid (Below j wB wf ∧ In .u8 wf (some ⟨g, n0, none⟩) az ∧ wc.heap.size ≤ g) := Lib.hid (by
    refine ⟨HBD.out.trans (hBwf.mono (by have := HJ.out.2.2.1; have := HBD.out.size; omega)), ?_, H14.out.1⟩
    have : In .u8 we (some ⟨g, n0, none⟩) az := H14.out.2.1.sub (X := xs) (Y := az) (Z := []) (by simp) n0 (fun _ => by rw [HLX.out]; simp)
    rw [HM.out]
    exact this)
  clear HDN HSM H14 HM hBwf HBD hlt0 hlt0'
  go_upto_region 25 with fail
  rw [show N - n0 = na by omega]
  have y1 : wf.cell? ⟨w.heap.size, 1, none⟩ = some (.int .i64 pgc) := (HBX.out _ HF.out.1).bp.cell 1
  have y2 : wf.cell? ⟨w.heap.size, 2, none⟩ = some (.int .i64 psi) := (HBX.out _ HF.out.1).bp.cell 2
  have y3 : wf.cell? ⟨w.heap.size, 3, none⟩ = some (.int .i64 pol) := (HBX.out _ HF.out.1).bp.cell 3
  have y4 : wf.cell? ⟨w.heap.size, 4, none⟩ = some (.int .i64 poc) := (HBX.out _ HF.out.1).bp.cell 4
  have y5 : wf.cell? ⟨w.heap.size, 5, none⟩ = some (.int .i64 pon) := (HBX.out _ HF.out.1).bp.cell 5
  obtain ⟨E, hE⟩ : ∃ E, recs z0 (toks ds ks n) = E := ⟨_, rfl⟩
  have HST : Hid (GR ⟨L, sgc, ssi, sol, soc, son⟩ az E wf na (.int .i64 0) (.int .i64 pgc) (.int .i64 psi) (.int .i64 pol) (.int .i64 poc) (.int .i64 pon) (.int .i64 0) (.int .i64 0) wf) := Lib.hid (by
    have hz := HZ.out
    obtain ⟨l, p0, hr⟩ := rd_start ⟨L, sgc, ssi, sol, soc, son⟩ ⟨pgl, pgc, psi, pol, poc, pon⟩ L q n a b c d r rest az Y nm lb ds ks rfl hz.2.1 hz.1 (nth_p12 ds HDS.out) HOK.out.2.1 HOK.out.1 hz.2.2.2.2.2.2.1 HAZ.out.symm
    rw [hE] at hr
    exact ⟨l, p0, _, _, _, _, _, _, 0, 0, hr, by rw [HNA.out]; omega, rfl, rfl, rfl, rfl, rfl, rfl, rfl, rfl, Below.refl _ _⟩)
  have HEL : Hid (E.length = n) := Lib.hid (by rw [← hE, recs_len, toks_nsg])
  have HLP : Hid (∀ wr, Below wf.heap.size wf wr → In .u8 wr (some ⟨g, n0, none⟩) az ∧ Bx w ⟨pgl, pgc, psi, pol, poc, pon⟩ ⟨L, sgc, ssi, sol, soc, son⟩ pb false wr ∧ Tab wr wr.heap.size ∧ (∀ sg e, E[sg]? = some e → ∀ c, c < 7 → wr.cell? ⟨sb, sg * 7 + c, none⟩ = some (.int .i64 (nth e c)))) := Lib.hid (by
    intro wr hb
    have h1 := HF.out.1
    have hs1 := h1.size
    have hs2 := HJ.out.2.2.1
    have hbw : Below j wB wr := h1.trans (hb.mono (by omega))
    refine ⟨HF.out.2.1.kept hb, HBX.out _ hbw, (HOK.out.2.2.below (HBX.out _ hbw).bel).mono (HBX.out _ hbw).bel.size, fun sg e he c hc => ?_⟩
    have hk := HW10.out.2.2.1.kept (HB10.out _ hbw)
    have hlt : sg < E.length := (List.getElem?_eq_some_iff.1 he).1
    have h7 : ∀ x ∈ E, x.length = 7 := by rw [← hE]; exact recs_seven _ _
    have hfl : segC (toks ds ks n) n n = E.flatten := by unfold segC; rw [hE]; simp
    rw [hfl] at hk
    have hll : E.flatten.length = 7 * E.length := by rw [← hE, recs_flat, recs_len]
    have := hk.int (i := sg * 7 + c) (by rw [hll]; omega)
    rw [this, Nat.mul_comm sg 7, flat_nth E sg c e h7 he hc])
  clear hE HF
  go_upto_region 33 with fail
  clear y1 y2 y3 y4 y5
  go_loopg [17, 18, 19, 20, 21, 22, 23, 24] na (fun k v17 v18 v19 v20 v21 v22 v23 v24 wr => GR ⟨L, sgc, ssi, sol, soc, son⟩ az E wf k v17 v18 v19 v20 v21 v22 v23 v24 wr)
  case atStart => exact HST.out
  case round =>
    obtain ⟨l, p0, LN, CO, SR, OL, OC, ON, pos, sg, hrd, hk, rfl, rfl, rfl, rfl, rfl, rfl, rfl, rfl, hbel⟩ := hrel
    have hle := hrd.le
    have hsg := hrd.sg
    obtain ⟨bl0, bl1, bc0, bc1, bs0, bs1, bo0, bo1, bx0, bx1, bn0, bn1⟩ := hrd.rb
    simp only at bl0 bl1 bc0 bc1 bs0 bs1 bo0 bo1 bx0 bx1 bn0 bn1
    rw [HNA.out] at hle hk
    rw [HEL.out] at hsg
    rcases l with _ | ⟨x, t⟩
    · obtain ⟨h1, h2⟩ := hrd.fin
      rw [HNA.out] at h1
      rw [HEL.out] at h2
      subst h1 h2
      have HBL := Lib.hid hbel
      clear hrd hk hbel bl0 bl1 bc0 bc1 bs0 bs1 bo0 bo1 bx0 bx1 bn0 bn1
      go_wp2_with fail
      go_ret
      exact ⟨by simp, (HLP.out _ HBL.out).2.1.bel⟩
    · cases x with
      | nl => as_aux_lemma =>
        obtain ⟨h1, h2, h3⟩ := hrd.nl
        have c0 : wr.cell? ⟨g, n0 + pos, none⟩ = some (.int .u8 59) := by
          obtain ⟨b', o', e1, e2, e3⟩ := (HLP.out _ hbel).1.at (i := pos) h1
          cases e1
          rw [e3, h2]
        rw [HNA.out] at h1
        have HR : Hid (GR ⟨L, sgc, ssi, sol, soc, son⟩ az E wf (na - (pos + 1)) (.int .i64 (LN + 1)) (.int .i64 0) (.int .i64 SR) (.int .i64 OL) (.int .i64 OC) (.int .i64 ON) (.int .i64 sg) (.int .i64 ((pos : Int) + 1)) wr) := Lib.hid
          ⟨t, false, LN + 1, 0, SR, OL, OC, ON, pos + 1, sg, h3, by rw [HNA.out]; exact Nat.le_refl _, rfl, rfl, rfl, rfl, rfl, rfl, rfl, by go_num, hbel⟩
        clear hrd h2 h3 hbel bc0 bc1 bs0 bs1 bo0 bo1 bx0 bx1 bn0 bn1
        go_wp2_with fail
        go_roundg (na - (pos + 1))
        case measure => omega
        case rel => exact HR.out
      | seg zl =>
        rcases p0 with _ | _
        · obtain ⟨e, he, hok, hnx⟩ := hrd.seg
          have hws := hrd.ws zl List.mem_cons_self
          have hbd := hrd.bd zl List.mem_cons_self
          obtain ⟨hpl, hb64⟩ := seg_first (zl := zl) (R := txg true t) hrd.txt hrd.le (by omega)
          have hnum : ∀ i, i < zl.length → NumAt az (pos + (encL (zl.take i)).length) (nth zl i) := fun i hi => seg_num (zl := zl) (R := txg true t) hrd.txt hrd.le i hi
          have hend := seg_end hnx.txt hnx.le
          have hep := encL_pos (zl := zl) (by omega)
          have hnle := hnx.le
          obtain ⟨en, hen⟩ : ∃ en, pos + (encL zl).length = en := ⟨_, rfl⟩
          rw [hen] at hend hnx hnle
          obtain ⟨z0, z1, z2, z3, z4, hz5⟩ := pad5_five zl (by omega)
          have hz : ∀ i, nth zl i = nth [z0, z1, z2, z3, z4] i := fun i => by rw [← hz5, pad5_nth]
          have q0 : nth zl 0 = z0 := hz 0
          have q1 : nth zl 1 = z1 := hz 1
          have q2 : nth zl 2 = z2 := hz 2
          have q3 : nth zl 3 = z3 := hz 3
          have q4 : nth zl 4 = z4 := hz 4
          have zb := fun i => nth_bnd hbd i
          have zb0 := zb 0
          have zb1 := zb 1
          have zb2 := zb 2
          have zb3 := zb 3
          have zb4 := zb 4
          rw [q0] at zb0
          rw [q1] at zb1
          rw [q2] at zb2
          rw [q3] at zb3
          rw [q4] at zb4
          unfold Bnd at zb0 zb1 zb2 zb3 zb4
          obtain ⟨M, hM⟩ : ∃ M : Int, (zl.length : Int) = M := ⟨_, rfl⟩
          have hTab := (HLP.out _ hbel).2.2.1
          have HPS : Hid (Calls Tryd.prog 16 #[.slice (some ⟨g, n0, none⟩) na na, .int .i64 pos] wr (fun e w' => e = .returned (.tuple #[.agg #[.int .i64 z0, .int .i64 z1, .int .i64 z2, .int .i64 z3, .int .i64 z4], .int .i64 M, .int .i64 en, .bool true]) ∧ Below wr.heap.size wr w')) := Lib.hid (by
            have := ps_any (some ⟨g, n0, none⟩) na na az zl pos en wr HNA.out (HLP.out _ hbel).1 (by omega) (by omega) (by omega) hbd hnum hen (by rw [HNA.out] at hend; exact hend) hTab
            unfold PSeg at this
            rw [hz5, hM] at this
            exact this)
          obtain ⟨e0, e1, e2, e3, e4, e5, e6, rfl⟩ : ∃ e0 e1 e2 e3 e4 e5 e6, e = [e0, e1, e2, e3, e4, e5, e6] := by
            match e, hok.1 with
            | [e0, e1, e2, e3, e4, e5, e6], _ => exact ⟨_, _, _, _, _, _, _, rfl⟩
          have o2 : e2 = M := by rw [← hM]; exact hok.2.1
          have o3 : LN = L + e0 := hok.2.2.1
          have o4 : CO + nth zl 0 = e1 + (if e0 = 0 then sgc else 0) := hok.2.2.2.1
          have o5 : 4 ≤ zl.length → SR + nth zl 1 = ssi + e3 ∧ OL + nth zl 2 = sol + e4 ∧ OC + nth zl 3 = soc + e5 := hok.2.2.2.2.1
          have o6 : zl.length = 5 → ON + nth zl 4 = son + e6 := hok.2.2.2.2.2
          rw [q0] at o4
          rw [q1, q2, q3] at o5
          rw [q4] at o6
          obtain ⟨C1, hC1⟩ : ∃ C1, CO + z0 = C1 := ⟨_, rfl⟩
          obtain ⟨S1, hS1⟩ : ∃ S1, SR + z1 = S1 := ⟨_, rfl⟩
          obtain ⟨O1, hO1⟩ : ∃ O1, OL + z2 = O1 := ⟨_, rfl⟩
          obtain ⟨X1, hX1⟩ : ∃ X1, OC + z3 = X1 := ⟨_, rfl⟩
          obtain ⟨N1, hN1⟩ : ∃ N1, ON + z4 = N1 := ⟨_, rfl⟩
          have hpn : pos < na := by rw [← HNA.out]; exact hpl
          have hsn : sg < n := by rw [← HEL.out]; exact (List.getElem?_eq_some_iff.1 he).1
          rw [HNA.out] at hnle
          have c0 : wr.cell? ⟨g, n0 + pos, none⟩ = some (.int .u8 (nth az pos)) := by
            obtain ⟨b', o', e1, e2, e3⟩ := (HLP.out _ hbel).1.at (i := pos) hpl
            cases e1
            exact e3
          obtain ⟨ch, hch⟩ : ∃ ch, nth az pos = ch := ⟨_, rfl⟩
          rw [hch] at c0 hb64
          have ch1 : (ch == 59) = false := beq_eq_false_iff_ne.2 hb64.2.2.2
          have ch2 : (ch == 44) = false := beq_eq_false_iff_ne.2 hb64.2.2.1
          have HR : Hid (∀ w', Below wf.heap.size wf w' → GR ⟨L, sgc, ssi, sol, soc, son⟩ az E wf (na - en) (.int .i64 LN) (.int .i64 C1) (.int .i64 S1) (.int .i64 O1) (.int .i64 X1) (.int .i64 N1) (.int .i64 ((sg : Int) + 1)) (.int .i64 en) w') := Lib.hid (fun w' hb => by
            have hA : Ab.seg ⟨LN, CO, SR, OL, OC, ON⟩ zl = ⟨LN, C1, S1, O1, X1, N1⟩ := by
              simp only [Ab.seg, q0, q1, q2, q3, q4, hC1, hS1, hO1, hX1, hN1]
            rw [hA] at hnx
            exact ⟨t, true, LN, C1, S1, O1, X1, N1, en, sg + 1, hnx, by rw [HNA.out]; exact Nat.le_refl _, rfl, rfl, rfl, rfl, rfl, rfl, by go_num, rfl, hb⟩)
          have HCE : Hid (∀ w', Below wf.heap.size wf w' → ∀ c, c < 7 → w'.cell? ⟨sb, sg * 7 + c, none⟩ = some (.int .i64 (nth [e0, e1, e2, e3, e4, e5, e6] c))) := Lib.hid (fun w' hb c hc => (HLP.out w' hb).2.2.2 sg _ he c hc)
          have HBL := Lib.hid hbel
          have hwf1 := hbel.size
          have zz : zl.length = 1 → z1 = 0 ∧ z2 = 0 ∧ z3 = 0 ∧ z4 = 0 := fun h => ⟨by rw [← q1]; exact nth_out _ _ (by omega), by rw [← q2]; exact nth_out _ _ (by omega), by rw [← q3]; exact nth_out _ _ (by omega), by rw [← q4]; exact nth_out _ _ (by omega)⟩
          have z4z : zl.length = 4 → z4 = 0 := fun h => by rw [← q4]; exact nth_out _ _ (by omega)
          have hpen : pos < en := by omega
          clear hrd he hok hnx hbd hnum hend hep hz hen q0 q1 q2 q3 q4 zb hTab hb64 hch hpl hbel hz5
          subst o3
          subst o2
          go_upto_region 41 with (go_at_call 16; refine HPS.out.mono ?_; rintro ee w16 ⟨rfl, hb⟩; have HB16 := Lib.hid (HBL.out.trans (hb.mono hwf1)); clear hb)
          obtain ⟨bz, hbz⟩ : ∃ bz, w16.heap.size = bz := ⟨_, rfl⟩
          obtain ⟨wq, hwq⟩ : ∃ wq, w16.alloc (.cells #[.int .i64 z0, .int .i64 z1, .int .i64 z2, .int .i64 z3, .int .i64 z4] 51) = wq := ⟨_, rfl⟩
          have HBq : Hid (Below wf.heap.size wf wq) := Lib.hid (by rw [← hwq]; exact HB16.out.alloc HB16.out.size _)
          have HVq : Hid (Blk wq bz 51 #[.int .i64 z0, .int .i64 z1, .int .i64 z2, .int .i64 z3, .int .i64 z4]) := Lib.hid (by rw [← hwq, ← hbz]; exact Blk.new _ _ _)
          rw [hwq, hbz]
          clear hwq hbz c0
          have c0' : wq.cell? ⟨sb, sg * 7, none⟩ = some (.int .i64 e0) := HCE.out _ HBq.out 0 (by decide)
          have c1' : wq.cell? ⟨sb, sg * 7 + 1, none⟩ = some (.int .i64 e1) := HCE.out _ HBq.out 1 (by decide)
          have c2' : wq.cell? ⟨sb, sg * 7 + 2, none⟩ = some (.int .i64 e2) := HCE.out _ HBq.out 2 (by decide)
          have c3' : wq.cell? ⟨sb, sg * 7 + 3, none⟩ = some (.int .i64 e3) := HCE.out _ HBq.out 3 (by decide)
          have c4' : wq.cell? ⟨sb, sg * 7 + 4, none⟩ = some (.int .i64 e4) := HCE.out _ HBq.out 4 (by decide)
          have c5' : wq.cell? ⟨sb, sg * 7 + 5, none⟩ = some (.int .i64 e5) := HCE.out _ HBq.out 5 (by decide)
          have c6' : wq.cell? ⟨sb, sg * 7 + 6, none⟩ = some (.int .i64 e6) := HCE.out _ HBq.out 6 (by decide)
          go_upto_region 44 with fail
          obtain ⟨be, hbe⟩ : ∃ be, wq.heap.size = be := ⟨_, rfl⟩
          obtain ⟨wp, hwp⟩ : ∃ wp, wq.alloc (.cells #[.int .i64 e0, .int .i64 e1, .int .i64 e2, .int .i64 e3, .int .i64 e4, .int .i64 e5, .int .i64 e6] 55) = wp := ⟨_, rfl⟩
          have HBp : Hid (Below wf.heap.size wf wp) := Lib.hid (by rw [← hwp]; exact HBq.out.alloc HBq.out.size _)
          have HVE : Hid (Blk wp be 55 #[.int .i64 e0, .int .i64 e1, .int .i64 e2, .int .i64 e3, .int .i64 e4, .int .i64 e5, .int .i64 e6]) := Lib.hid (by rw [← hwp, ← hbe]; exact Blk.new _ _ _)
          have HVZ : Hid (Blk wp bz 51 #[.int .i64 z0, .int .i64 z1, .int .i64 z2, .int .i64 z3, .int .i64 z4]) := Lib.hid (by rw [← hwp]; exact HVq.out.alloc _)
          rw [hwp, hbe]
          clear hwp hbe c0' c1' c2' c3' c4' c5' c6'
          have x0 : wp.cell? ⟨w.heap.size + 1, 0, none⟩ = some (.int .i64 L) := (HLP.out _ HBp.out).2.1.bs.cell 0
          have x1 : wp.cell? ⟨w.heap.size + 1, 1, none⟩ = some (.int .i64 sgc) := (HLP.out _ HBp.out).2.1.bs.cell 1
          have x2 : wp.cell? ⟨w.heap.size + 1, 2, none⟩ = some (.int .i64 ssi) := (HLP.out _ HBp.out).2.1.bs.cell 2
          have x3 : wp.cell? ⟨w.heap.size + 1, 3, none⟩ = some (.int .i64 sol) := (HLP.out _ HBp.out).2.1.bs.cell 3
          have x4 : wp.cell? ⟨w.heap.size + 1, 4, none⟩ = some (.int .i64 soc) := (HLP.out _ HBp.out).2.1.bs.cell 4
          have x5 : wp.cell? ⟨w.heap.size + 1, 5, none⟩ = some (.int .i64 son) := (HLP.out _ HBp.out).2.1.bs.cell 5
          have v0 : wp.cell? ⟨bz, 0, none⟩ = some (.int .i64 z0) := HVZ.out.cell 0
          have v1 : wp.cell? ⟨bz, 1, none⟩ = some (.int .i64 z1) := HVZ.out.cell 1
          have v2 : wp.cell? ⟨bz, 2, none⟩ = some (.int .i64 z2) := HVZ.out.cell 2
          have v3 : wp.cell? ⟨bz, 3, none⟩ = some (.int .i64 z3) := HVZ.out.cell 3
          have v4 : wp.cell? ⟨bz, 4, none⟩ = some (.int .i64 z4) := HVZ.out.cell 4
          have u0 : wp.cell? ⟨be, 0, none⟩ = some (.int .i64 e0) := HVE.out.cell 0
          have u1 : wp.cell? ⟨be, 1, none⟩ = some (.int .i64 e1) := HVE.out.cell 1
          have u2 : wp.cell? ⟨be, 2, none⟩ = some (.int .i64 e2) := HVE.out.cell 2
          have u3 : wp.cell? ⟨be, 3, none⟩ = some (.int .i64 e3) := HVE.out.cell 3
          have u4 : wp.cell? ⟨be, 4, none⟩ = some (.int .i64 e4) := HVE.out.cell 4
          have u5 : wp.cell? ⟨be, 5, none⟩ = some (.int .i64 e5) := HVE.out.cell 5
          have u6 : wp.cell? ⟨be, 6, none⟩ = some (.int .i64 e6) := HVE.out.cell 6
          have hmk : na - en < na - pos := by omega
          rcases (show e0 = 0 ∨ e0 ≠ 0 by omega) with h0 | h0
          · have oc : e1 + sgc = C1 := by rw [if_pos h0] at o4; omega
            clear o4
            subst h0
            rcases hws with h | h | h
            · as_aux_lemma =>
              obtain ⟨a1, a2, a3, a4⟩ := zz h
              have b1 : S1 = SR := by omega
              have b2 : O1 = OL := by omega
              have b3 : X1 = OC := by omega
              have b4 : N1 = ON := by omega
              have hM1 : e2 = 1 := by omega
              subst b1 b2 b3 b4 hM1
              clear hS1 hO1 hX1 hN1 zz z4z o5 o6 a1 a2 a3 a4 hM h
              go_wp2_with fail
              go_roundg (na - en)
              case measure => omega
              case rel => exact HR.out _ HBp.out
            · as_aux_lemma =>
              have a4 := z4z h
              have b4 : N1 = ON := by omega
              have hM1 : e2 = 4 := by omega
              obtain ⟨o51, o52, o53⟩ := o5 (by omega)
              rw [hS1] at o51
              rw [hO1] at o52
              rw [hX1] at o53
              subst b4 hM1
              replace o51 := o51.symm
              replace o52 := o52.symm
              replace o53 := o53.symm
              clear hN1 zz z4z o5 o6 a4 hM h
              go_wp2_with fail
              go_roundg (na - en)
              case measure => omega
              case rel => exact HR.out _ HBp.out
            · as_aux_lemma =>
              have hM1 : e2 = 5 := by omega
              obtain ⟨o51, o52, o53⟩ := o5 (by omega)
              have o61 := o6 h
              rw [hS1] at o51
              rw [hO1] at o52
              rw [hX1] at o53
              rw [hN1] at o61
              subst hM1
              replace o51 := o51.symm
              replace o52 := o52.symm
              replace o53 := o53.symm
              replace o61 := o61.symm
              clear zz z4z o5 o6 hM h
              go_wp2_with fail
              go_roundg (na - en)
              case measure => omega
              case rel => exact HR.out _ HBp.out
          · have e00 : (e0 == 0) = false := beq_eq_false_iff_ne.2 h0
            have oc : e1 = C1 := by rw [if_neg h0] at o4; omega
            subst oc
            clear o4
            rcases hws with h | h | h
            · as_aux_lemma =>
              obtain ⟨a1, a2, a3, a4⟩ := zz h
              have b1 : S1 = SR := by omega
              have b2 : O1 = OL := by omega
              have b3 : X1 = OC := by omega
              have b4 : N1 = ON := by omega
              have hM1 : e2 = 1 := by omega
              subst b1 b2 b3 b4 hM1
              clear hS1 hO1 hX1 hN1 zz z4z o5 o6 a1 a2 a3 a4 hM h
              go_wp2_with fail
              go_roundg (na - en)
              case measure => omega
              case rel => exact HR.out _ HBp.out
            · as_aux_lemma =>
              have a4 := z4z h
              have b4 : N1 = ON := by omega
              have hM1 : e2 = 4 := by omega
              obtain ⟨o51, o52, o53⟩ := o5 (by omega)
              rw [hS1] at o51
              rw [hO1] at o52
              rw [hX1] at o53
              subst b4 hM1
              replace o51 := o51.symm
              replace o52 := o52.symm
              replace o53 := o53.symm
              clear hN1 zz z4z o5 o6 a4 hM h
              go_wp2_with fail
              go_roundg (na - en)
              case measure => omega
              case rel => exact HR.out _ HBp.out
            · as_aux_lemma =>
              have hM1 : e2 = 5 := by omega
              obtain ⟨o51, o52, o53⟩ := o5 (by omega)
              have o61 := o6 h
              rw [hS1] at o51
              rw [hO1] at o52
              rw [hX1] at o53
              rw [hN1] at o61
              subst hM1
              replace o51 := o51.symm
              replace o52 := o52.symm
              replace o53 := o53.symm
              replace o61 := o61.symm
              clear zz z4z o5 o6 hM h
              go_wp2_with fail
              go_roundg (na - en)
              case measure => omega
              case rel => exact HR.out _ HBp.out
        · as_aux_lemma =>
          obtain ⟨h1, h2, h3⟩ := hrd.comma
          have c0 : wr.cell? ⟨g, n0 + pos, none⟩ = some (.int .u8 44) := by
            obtain ⟨b', o', e1, e2, e3⟩ := (HLP.out _ hbel).1.at (i := pos) h1
            cases e1
            rw [e3, h2]
          rw [HNA.out] at h1
          have HR : Hid (GR ⟨L, sgc, ssi, sol, soc, son⟩ az E wf (na - (pos + 1)) (.int .i64 LN) (.int .i64 CO) (.int .i64 SR) (.int .i64 OL) (.int .i64 OC) (.int .i64 ON) (.int .i64 sg) (.int .i64 ((pos : Int) + 1)) wr) := Lib.hid
            ⟨.seg zl :: t, false, LN, CO, SR, OL, OC, ON, pos + 1, sg, h3, by rw [HNA.out]; exact Nat.le_refl _, rfl, rfl, rfl, rfl, rfl, rfl, rfl, by go_num, hbel⟩
          clear hrd h2 h3 hbel bc0 bc1 bs0 bs1 bo0 bo1 bx0 bx1 bn0 bn1
          go_wp2_with fail
          go_roundg (na - (pos + 1))
          case measure => omega
          case rel => exact HR.out
end Go.Proofs.YtoegmcakolidbaaDoor
