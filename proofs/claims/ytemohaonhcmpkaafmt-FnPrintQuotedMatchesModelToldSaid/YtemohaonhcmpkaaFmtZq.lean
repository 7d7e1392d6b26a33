/-
  The law's model of the quoted text; its copies. No statement of the seat is proved here.
-/
import Derived.Test.YtemohaonhcmpkaaFmtZm
import Derived.Test.YtemohaonhcmpkaaFmtPr
import Derived.Laws.MakeOwn
namespace Go.Proofs.YtemohaonhcmpkaaFmt
open Go.RowKit
set_option linter.unusedVariables false
set_option linter.unusedSimpArgs false

theorem cp_info : (Tryf.prog.info? 5).map (fun i => (i.zero, i.size, i.bytes)) = some (some (.int .u8 0), 1, 1) := by kernel_rfl
/-- what a copy is: nil, or full -/
def CpE (zs : List Int) (w : World) (e : Ending) (w' : World) : Prop := ∃ ao, e = .returned (.slice ao zs.length zs.length) ∧ (ao = none → zs = []) ∧ In .u8 w' ao zs ∧ Own .u8 5 w' w.heap.size (.slice ao zs.length zs.length) zs ∧ Below w.heap.size w w'
theorem cp_any (ao : Option Addr) (cap : Nat) (zs : List Int) (w : World) (hin : In .u8 w ao zs) (hl : zs.length ≤ 1048576) :
    Calls Tryf.prog 6 #[.slice ao zs.length cap] w (CpE zs w) := by
  have hnil := fun (w : World) => Lib.run_eql_slice_nil (P := Tryf.prog) w 22 5 ao zs.length cap 0 0 Tryf.underlying22
  rcases ao with _ | x
  · have hz : zs = [] := by
      rcases hin with h | ⟨b, off, h, _⟩
      · exact h
      · cases h
    subst hz
    clear hin hl
    simp only [List.length_nil, Option.isNone_none] at hnil
    go_enter Tryf.func6, Tryf.ntmps6
    go_wp2
    go_ret
    exact ⟨none, rfl, fun _ => rfl, In.nil _ _ _, Own.nil _ _ _ _, Below.refl _ _⟩
  · have HI := Lib.hid hin
    clear hin
    go_enter Tryf.func6, Tryf.ntmps6
    go_wp2_with (at_make; refine wpList_make_ints _ rfl _ _ 22 rfl 5 .u8 1 Tryf.underlying22 cp_info zs.length rfl rfl (by omega) (by unfold maxLen; omega) ?_; intro w1 hb hgr)
    have hb1 : Below w.heap.size w w1 := (Below.refl _ w).grown hgr (Nat.le_refl _) (fun k h => by cases h)
    have HB := Lib.hid (And.intro hb hb1)
    clear hb hgr hb1
    go_loopw [4] (fun i wr => ∃ k : Nat, k ≤ zs.length ∧ i = .int .i64 k ∧ Blk wr w.heap.size 5 (ints .u8 (cpy zs k)) ∧ Below w.heap.size w wr) (fun i _ => zs.length - (intOf i).toNat)
    case atStart => exact ⟨0, Nat.zero_le _, rfl, by rw [cpy_zero]; exact HB.out.1, HB.out.2⟩
    case round =>
      obtain ⟨k, hk, rfl, hB, hbel⟩ := hrel
      rcases (show k = zs.length ∨ k < zs.length by omega) with rfl | hlt
      · rw [cpy_end] at hB
        have HF := Lib.hid (And.intro hB hbel)
        clear hB hbel
        go_wp2
        go_ret
        exact ⟨_, rfl, (fun c => by cases c), (Blk.in HF.out.1), Own.of_blk HF.out.1 (Nat.le_refl _) (by unfold maxLen; omega), HF.out.2⟩
      · obtain ⟨b, off, hx, hblt, hc⟩ := HI.out.at hlt
        cases hx
        have hc' := (hbel.cell (p := ⟨b, off + k, none⟩) hblt).trans hc
        have hcl := cpy_length zs k hk
        have hs := hB.int (i := k) (by omega)
        have hf := hB.free k
        have hB2 := hB.put k (nth zs k)
        rw [cpy_step zs k hlt] at hB2
        have HN := Lib.hid (And.intro hB2 (hbel.setCell (p := ⟨w.heap.size, k, none⟩) (Nat.le_refl _) (.int .u8 (nth zs k))))
        clear hB hbel hB2 hc hcl
        go_wp2
        go_roundw
        case rel => exact ⟨k + 1, by omega, by go_num, HN.out.1, HN.out.2⟩
        case measure => simp [intOf]; omega

def QmE (B : Nat) (zs : List Int) (t : ByteArray) (q : Nat) (w : World) (e : Ending) (w' : World) : Prop := ∃ v, e = .returned v ∧ Own .u8 5 w' B v (zs ++ [(q : Int)] ++ body t q t.size ++ [(q : Int)]) ∧ Below B w w'
theorem gr_below {B : Nat} {w w' : World} {v v' : Value} {zs : List Int} (ho : Own .u8 5 w B v zs) (hB : B ≤ w.heap.size) (hg : Gr w v w' v') : Below B w w' := hg.below (Below.refl _ _) hB (fun g h => (ho.lt g h).1)
theorem qm_esc {B q i : Nat} {t : ByteArray} {z0 zi : List Int} {b : Int} {w wz w3 w4 : World} {yv v3 v4 : Value} (hn : nd t q i = true) (hb : bz t i = b) (hz : z0 ++ body t q i = zi) (hB : B ≤ wz.heap.size)
    (hI : Own .u8 5 wz B yv zi ∧ Below B w wz) (h3 : Own .u8 5 w3 B v3 (zi ++ [92]) ∧ Gr wz yv w3 v3) (h4 : Own .u8 5 w4 B v4 (zi ++ [92] ++ [b]) ∧ Gr w3 v3 w4 v4) :
    Own .u8 5 w4 B v4 (z0 ++ body t q (i + 1)) ∧ Below B w w4 := by
  refine ⟨?_, (hI.2.trans (gr_below hI.1 hB h3.2)).trans (gr_below h3.1 (Nat.le_trans hB h3.2.1.size) h4.2)⟩
  rw [body_esc hn, hb, ← List.append_assoc, hz]
  have h := h4.1
  rw [List.append_assoc] at h
  exact h
theorem qm_one {B q i : Nat} {t : ByteArray} {z0 zi : List Int} {b : Int} {w wz w4 : World} {yv v4 : Value} (hn : nd t q i = false) (hb : bz t i = b) (hz : z0 ++ body t q i = zi) (hB : B ≤ wz.heap.size)
    (hI : Own .u8 5 wz B yv zi ∧ Below B w wz) (h4 : Own .u8 5 w4 B v4 (zi ++ [b]) ∧ Gr wz yv w4 v4) :
    Own .u8 5 w4 B v4 (z0 ++ body t q (i + 1)) ∧ Below B w w4 := by
  refine ⟨?_, hI.2.trans (gr_below hI.1 hB h4.2)⟩
  have e : body t q (i + 1) = body t q i ++ [b] := by
    show body t q i ++ (if nd t q i = true then [92, bz t i] else [bz t i]) = _
    rw [hn, hb]; simp
  rw [e, ← List.append_assoc, hz]
  exact h4.1
set_option maxHeartbeats 0 in
set_option maxRecDepth 100000 in
theorem qm_any (B : Nat) (v : Value) (zs : List Int) (t : ByteArray) (q : Nat) (hq : q = 34 ∨ q = 39) (w : World) (ho : Own .u8 5 w B v zs) (hB : B ≤ w.heap.size) (hl : zs.length ≤ 1048576) (ht : t.size ≤ 1048576) :
    Calls Tryf.prog 7 #[v, .string t, .int .u8 (q : Int)] w (QmE B zs t q w) := by
  have HQ := Lib.hid hq
  have HO := Lib.hid ho
  have hq0 : ((q : Int) == 0) = false := by simp; omega
  have hq1 : decide ((q : Int) = 0) = false := by simp; omega
  have hq2 : ¬ (q : Int) = 0 := by omega
  have hz63 : zs.length + 1 ≤ maxLen := by unfold maxLen; omega
  have hz64 : (zs.length + 1) * 1 ≤ 140737488355328 := by omega
  have HPU := Lib.hid (And.intro hz63 hz64)
  have HB := Lib.hid hB
  have HLZ := Lib.hid hl
  clear ho hq hz63 hz64 hB hl
  go_enter Tryf.func7, Tryf.ntmps7
  go_upto_region 3 with (at_builtin; refine wpList_push w rfl (.tmp 12) (.tmp 14) 22 rfl B 5 .u8 1 Tryf.underlying22 u8_info v zs (q : Int) rfl HO.out rfl HPU.out.1 HPU.out.2 HB.out ?_; intro v1 w1 ho1 hg1 _; have H1 := Lib.hid (And.intro ho1 hg1); clear ho1 hg1)
  obtain ⟨z0, hz0⟩ : ∃ z0, zs ++ [(q : Int)] = z0 := ⟨_, rfl⟩
  rw [hz0] at H1
  have HZ0 : Hid (zs ++ [(q : Int)] = z0 ∧ z0.length ≤ 1048577) := Lib.hid ⟨hz0, by rw [← hz0]; simp; have := HLZ.out; omega⟩
  have H2 : Hid (Below B w w1) := Lib.hid (gr_below HO.out HB.out H1.out.2)
  obtain ⟨n, hn⟩ : ∃ n, t.size = n := ⟨_, rfl⟩
  have HN := Lib.hid hn
  rw [hn] at ht
  clear hz0
  go_wp2_with fail
  go_loopg [0, 7] n (fun g x y wx => ∃ i : Nat, y = .int .i64 (i : Int) ∧ i ≤ n ∧ n - i ≤ g ∧ Hid (Own .u8 5 wx B x (z0 ++ body t q i) ∧ Below B w wx))
  case atStart => exact ⟨0, rfl, by omega, by omega, Lib.hid ⟨by simpa [body] using H1.out.1, H2.out⟩⟩
  case round =>
    obtain ⟨i, rfl, hi, hg, HI⟩ := hrel
    obtain ⟨wz, rfl⟩ : ∃ wz : World, wz = wr := ⟨_, rfl⟩
    obtain ⟨yv, rfl⟩ : ∃ yv, yv = u0 := ⟨_, rfl⟩
    obtain ⟨zi, hzi⟩ : ∃ zi, z0 ++ body t q i = zi := ⟨_, rfl⟩
    have HZI : Hid (z0 ++ body t q i = zi ∧ zi.length ≤ 8388608) := Lib.hid ⟨hzi, by
      rw [← hzi, List.length_append]
      have := body_len t q i
      have := HZ0.out.2
      omega⟩
    rw [hzi] at HI
    have hBz : B ≤ wz.heap.size := Nat.le_trans HB.out HI.out.2.size
    have hp1 : zi.length + 1 ≤ maxLen := by have := HZI.out.2; unfold maxLen; omega
    have hp2 : (zi.length + 1) * 1 ≤ 140737488355328 := by have := HZI.out.2; omega
    have HPZ := Lib.hid (And.intro hp1 (And.intro hp2 hBz))
    clear hzi hp1 hp2 hBz
    rcases (show n = i ∨ i < n by omega) with he | hlt
    · subst he
      go_wp2_with (at_builtin; refine wpList_push wz rfl (.tmp 77) (.tmp 79) 22 rfl B 5 .u8 1 Tryf.underlying22 u8_info yv zi (q : Int) rfl HI.out.1 rfl HPZ.out.1 HPZ.out.2.1 HPZ.out.2.2 ?_; intro v3 w3 ho3 hg3 _; have H3 := Lib.hid (And.intro ho3 hg3); clear ho3 hg3)
      go_ret
      refine ⟨_, rfl, ?_, HI.out.2.trans (gr_below HI.out.1 HPZ.out.2.2 H3.out.2)⟩
      have h := H3.out.1
      rw [← HZI.out.1, ← HZ0.out.1] at h
      rw [HN.out]
      exact h
    · have his : i < t.size := by have := HN.out; omega
      have hx := byteAt_get t i his
      have HND : Hid (nd t q i = (byteAt t i == 92 || byteAt t i == q || (byteAt t i == 47 && opn t i)) ∧ bz t i = (byteAt t i : Int)) := Lib.hid ⟨rfl, rfl⟩
      have HOC := Lib.hid (fun w => op_any t (by have := HN.out; omega) i his w)
      obtain ⟨b, hb⟩ : ∃ b, byteAt t i = b := ⟨_, rfl⟩
      rw [hb] at hx HND
      have HBT := Lib.hid hb
      have hiI : (i : Int) < (n : Int) := by omega
      have hiN : (n : Int) = (n : Int) := rfl
      clear hb
      -- what lays the byte, and the byte behind a backslash
      have one : ∀ (wx : World) (x : Value) (zx : List Int), wx = wx → True := fun _ _ _ _ => trivial
      clear one hiN
      have HPE : Hid ((zi ++ [92]).length + 1 ≤ maxLen ∧ ((zi ++ [92]).length + 1) * 1 ≤ 140737488355328) := Lib.hid (by
        have := HZI.out.2
        rw [List.length_append]
        refine ⟨?_, ?_⟩
        · unfold maxLen; simp; omega
        · simp; omega)
      rcases (show b = 92 ∨ b = q ∨ b = 47 ∨ (b ≠ 92 ∧ b ≠ q ∧ b ≠ 47) by omega) with h92 | hbq | h47 | ⟨g1, g2, g3⟩
      · subst h92
        have HNT : Hid (nd t q i = true) := Lib.hid (by rw [HND.out.1]; simp)
        have e1 : ((92 : Int) == (q : Int)) = false := by simp; have := HQ.out; omega
        have e2 : ¬ (92 : Int) = (q : Int) := by have := HQ.out; omega
        go_wp2_with (first | (at_builtin; refine wpList_push wz rfl (.tmp 68) (.tmp 69) 22 rfl B 5 .u8 1 Tryf.underlying22 u8_info yv zi 92 rfl HI.out.1 rfl HPZ.out.1 HPZ.out.2.1 HPZ.out.2.2 ?_; intro v3 w3 ho3 hg3 _; have H3 := Lib.hid (And.intro ho3 hg3); clear ho3 hg3) | (at_builtin; refine wpList_push w3 rfl (.tmp 71) (.tmp 73) 22 rfl B 5 .u8 1 Tryf.underlying22 u8_info v3 (zi ++ [92]) (92 : Int) rfl H3.out.1 rfl HPE.out.1 HPE.out.2 (Nat.le_trans HPZ.out.2.2 H3.out.2.1.size) ?_; intro v4 w4 ho4 hg4 _; have H4 := Lib.hid (And.intro ho4 hg4); clear ho4 hg4))
        go_roundg (gk - 1)
        case measure => omega
        case rel => exact ⟨i + 1, by go_num, by omega, by omega, Lib.hid (qm_esc HNT.out HND.out.2 HZI.out.1 HPZ.out.2.2 HI.out H3.out H4.out)⟩
      · have HNT : Hid (nd t q i = true) := Lib.hid (by rw [HND.out.1, hbq]; simp)
        have e1 : ((b : Int) == 92) = false := by simp; have := HQ.out; omega
        have e2 : ((b : Int) == (q : Int)) = true := by simp; omega
        have e3 : ((b : Int) == 47) = false := by simp; have := HQ.out; omega
        have e4 : ¬ (b : Int) = 92 := by have := HQ.out; omega
        have e5 : (b : Int) = (q : Int) ↔ True := by simp; omega
        have e6 : ¬ (b : Int) = 47 := by have := HQ.out; omega
        clear hbq
        go_wp2_with (first | (at_builtin; refine wpList_push wz rfl (.tmp 68) (.tmp 69) 22 rfl B 5 .u8 1 Tryf.underlying22 u8_info yv zi 92 rfl HI.out.1 rfl HPZ.out.1 HPZ.out.2.1 HPZ.out.2.2 ?_; intro v3 w3 ho3 hg3 _; have H3 := Lib.hid (And.intro ho3 hg3); clear ho3 hg3) | (at_builtin; refine wpList_push w3 rfl (.tmp 71) (.tmp 73) 22 rfl B 5 .u8 1 Tryf.underlying22 u8_info v3 (zi ++ [92]) (b : Int) rfl H3.out.1 rfl HPE.out.1 HPE.out.2 (Nat.le_trans HPZ.out.2.2 H3.out.2.1.size) ?_; intro v4 w4 ho4 hg4 _; have H4 := Lib.hid (And.intro ho4 hg4); clear ho4 hg4))
        go_roundg (gk - 1)
        case measure => omega
        case rel => exact ⟨i + 1, by go_num, by omega, by omega, Lib.hid (qm_esc HNT.out HND.out.2 HZI.out.1 HPZ.out.2.2 HI.out H3.out H4.out)⟩
      · subst h47
        have e1 : ((47 : Int) == (q : Int)) = false := by simp; have := HQ.out; omega
        have e2 : ¬ (47 : Int) = (q : Int) := by have := HQ.out; omega
        obtain ⟨o, ho⟩ : ∃ o, opn t i = o := ⟨_, rfl⟩
        rw [ho] at HND
        have HOO := Lib.hid ho
        clear ho
        cases o with
        | true =>
          have HNT : Hid (nd t q i = true) := Lib.hid (by rw [HND.out.1]; simp)
          go_wp2_with (first | (go_at_call 11; refine (HOC.out _).mono ?_; rintro e w5 ⟨rfl, h5⟩; rw [HOO.out]; have H5 := Lib.hid h5; clear h5; have HI5 : Hid (Own .u8 5 w5 B yv zi ∧ Below B w w5) := Lib.hid ⟨HI.out.1.gb H5.out (by cases yv.ownBlock <;> simp), HI.out.2.trans ((Below.refl _ _).grown H5.out HPZ.out.2.2 (fun k h => by cases h))⟩; have HB5 : Hid (B ≤ w5.heap.size) := Lib.hid (Nat.le_trans HPZ.out.2.2 H5.out.size)) | (at_builtin; refine wpList_push w5 rfl (.tmp 68) (.tmp 69) 22 rfl B 5 .u8 1 Tryf.underlying22 u8_info yv zi 92 rfl HI5.out.1 rfl HPZ.out.1 HPZ.out.2.1 HB5.out ?_; intro v3 w3 ho3 hg3 _; have H3 := Lib.hid (And.intro ho3 hg3); clear ho3 hg3) | (at_builtin; refine wpList_push w3 rfl (.tmp 71) (.tmp 73) 22 rfl B 5 .u8 1 Tryf.underlying22 u8_info v3 (zi ++ [92]) (47 : Int) rfl H3.out.1 rfl HPE.out.1 HPE.out.2 (Nat.le_trans HB5.out H3.out.2.1.size) ?_; intro v4 w4 ho4 hg4 _; have H4 := Lib.hid (And.intro ho4 hg4); clear ho4 hg4))
          go_roundg (gk - 1)
          case measure => omega
          case rel => exact ⟨i + 1, by go_num, by omega, by omega, Lib.hid (qm_esc HNT.out HND.out.2 HZI.out.1 HB5.out HI5.out H3.out H4.out)⟩
        | false =>
          have HNT : Hid (nd t q i = false) := Lib.hid (by rw [HND.out.1]; simp; omega)
          go_wp2_with (first | (go_at_call 11; refine (HOC.out _).mono ?_; rintro e w5 ⟨rfl, h5⟩; rw [HOO.out]; have H5 := Lib.hid h5; clear h5; have HI5 : Hid (Own .u8 5 w5 B yv zi ∧ Below B w w5) := Lib.hid ⟨HI.out.1.gb H5.out (by cases yv.ownBlock <;> simp), HI.out.2.trans ((Below.refl _ _).grown H5.out HPZ.out.2.2 (fun k h => by cases h))⟩; have HB5 : Hid (B ≤ w5.heap.size) := Lib.hid (Nat.le_trans HPZ.out.2.2 H5.out.size)) | (at_builtin; refine wpList_push w5 rfl (.tmp 71) (.tmp 73) 22 rfl B 5 .u8 1 Tryf.underlying22 u8_info yv zi (47 : Int) rfl HI5.out.1 rfl HPZ.out.1 HPZ.out.2.1 HB5.out ?_; intro v4 w4 ho4 hg4 _; have H4 := Lib.hid (And.intro ho4 hg4); clear ho4 hg4))
          go_roundg (gk - 1)
          case measure => omega
          case rel => exact ⟨i + 1, by go_num, by omega, by omega, Lib.hid (qm_one HNT.out HND.out.2 HZI.out.1 HB5.out HI5.out H4.out)⟩
      · have HNT : Hid (nd t q i = false) := Lib.hid (by rw [HND.out.1]; simp [g1, g2, g3])
        have e1 : ((b : Int) == 92) = false := by simp; omega
        have e2 : ((b : Int) == (q : Int)) = false := by simp; omega
        have e3 : ((b : Int) == 47) = false := by simp; omega
        clear g1 g2 g3
        go_wp2_with (at_builtin; refine wpList_push wz rfl (.tmp 71) (.tmp 73) 22 rfl B 5 .u8 1 Tryf.underlying22 u8_info yv zi (b : Int) rfl HI.out.1 rfl HPZ.out.1 HPZ.out.2.1 HPZ.out.2.2 ?_; intro v4 w4 ho4 hg4 _; have H4 := Lib.hid (And.intro ho4 hg4); clear ho4 hg4)
        go_roundg (gk - 1)
        case measure => omega
        case rel => exact ⟨i + 1, by go_num, by omega, by omega, Lib.hid (qm_one HNT.out HND.out.2 HZI.out.1 HPZ.out.2.2 HI.out H4.out)⟩
end Go.Proofs.YtemohaonhcmpkaaFmt
