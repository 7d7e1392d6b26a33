/-
  The walks of DecodeVLQUTF16 and of the law's own functions beside it (zzCopyUnits, zzScanVLQUTF16, zzHornerUnits, zzSignedFromWrapped32). No statement of the seat is proved here.
-/
import Derived.Test.YtfennlkojhnhjaaDoorEnc
import Derived.Test.YtfennlkojhnhjaaDoorVlqDec
import Derived.Test.YtfennlkojhnhjaaDoorShelf
import Derived.Laws.Shifts
namespace Go.Proofs.YtfennlkojhnhjaaDoor
open Go.RowKit
theorem copyU_info : (Tryd.prog.info? 90).map (fun i => (i.zero, i.size, i.bytes)) = some (some (.int .u16 0), 1, 2) := by kernel_rfl
theorem copyU_any (ao : Option Addr) (cap : Nat) (zs : List Int) (w : World) (hin : In .u16 w ao zs) (hl : zs.length ≤ 1048576) :
    Calls Tryd.prog 9 #[.slice ao zs.length cap] w (Owned .u16 90 w zs) := by
  have hnil := fun (w : World) => Lib.run_eql_slice_nil (P := Tryd.prog) w 22 90 ao zs.length cap 0 0 Tryd.underlying22
  rcases ao with _ | x
  · have hz : zs = [] := by
      rcases hin with h | ⟨b, off, h, _⟩
      · exact h
      · cases h
    subst hz
    clear hin hl
    simp only [List.length_nil, Option.isNone_none] at hnil
    go_enter Tryd.func9, Tryd.ntmps9
    go_wp2
    go_ret
    exact ⟨_, rfl, Own.nil _ _ _ _, Below.refl _ _⟩
  · have HI := Lib.hid hin
    clear hin
    go_enter Tryd.func9, Tryd.ntmps9
    go_wp2_with (at_make; refine wpList_make_ints _ rfl _ _ 22 rfl 90 .u16 2 Tryd.underlying22 copyU_info zs.length rfl rfl (by omega) (by unfold maxLen; omega) ?_; intro w1 hb hgr)
    have hb1 : Below w.heap.size w w1 := (Below.refl _ w).grown hgr (Nat.le_refl _) (fun k h => by cases h)
    have HB := Lib.hid (And.intro hb hb1)
    clear hb hgr hb1
    go_loopw [4] (fun i wr => ∃ k : Nat, k ≤ zs.length ∧ i = .int .i64 k ∧ Blk wr w.heap.size 90 (ints .u16 (cpy zs k)) ∧ Below w.heap.size w wr) (fun i _ => zs.length - (intOf i).toNat)
    case atStart => exact ⟨0, Nat.zero_le _, rfl, by rw [cpy_zero]; exact HB.out.1, HB.out.2⟩
    case round =>
      obtain ⟨k, hk, rfl, hB, hbel⟩ := hrel
      rcases (show k = zs.length ∨ k < zs.length by omega) with rfl | hlt
      · rw [cpy_end] at hB
        have HF := Lib.hid (And.intro hB hbel)
        clear hB hbel
        go_wp2
        go_ret
        exact ⟨_, rfl, Own.of_blk HF.out.1 (Nat.le_refl _) (by unfold maxLen; omega), HF.out.2⟩
      · obtain ⟨b, off, hx, hblt, hc⟩ := HI.out.at hlt
        cases hx
        have hc' := (hbel.cell (p := ⟨b, off + k, none⟩) hblt).trans hc
        have hcl := cpy_length zs k hk
        have hs := hB.int (i := k) (by omega)
        have hf := hB.free k
        have hB2 := hB.put k (nth zs k)
        rw [cpy_step zs k hlt] at hB2
        have HN := Lib.hid (And.intro hB2 (hbel.setCell (p := ⟨w.heap.size, k, none⟩) (Nat.le_refl _) (.int .u16 (nth zs k))))
        clear hB hbel hB2 hc hcl
        go_wp2
        go_roundw
        case rel => exact ⟨k + 1, by omega, by go_num, HN.out.1, HN.out.2⟩
        case measure => simp [intOf]; omega

theorem and31_i32 : ∀ d : Nat, d < 64 → bits .and .i32 (d : Int) 31 = ((d % 32 : Nat) : Int) := by decide
theorem and32_i32 : ∀ d : Nat, d < 64 → bits .and .i32 (d : Int) 32 = if 32 ≤ d then 32 else 0 := by decide
theorem b64_index : ∀ c : Nat, c < 256 → Lib.indexByte (Lib.bytesOf (b64.map fun (x : Nat) => (x : Int))) ((c : Int).toNat.toUInt8) = bi (c : Int) := by decide +kernel
theorem idx_any (R o cc : Nat) (c : Int) (w : World) (h0 : 0 ≤ c) (h1 : c ≤ 255) (hc : ∀ j, j < 64 → w.cell? ⟨R, o + j, none⟩ = some (.int .u8 (b64at j : Nat))) :
    Calls Tryd.prog 45 #[.slice (some ⟨R, o, none⟩) 64 cc, .int .u8 c] w fun e w' => e = .returned (.int .i64 (bi c)) ∧ w' = w := by
  obtain ⟨n, rfl⟩ := Int.eq_ofNat_of_zero_le h0
  rw [← b64_index n (by omega)]
  refine Tryd.bytes_IndexByte R o 64 cc (b64.map fun (x : Nat) => (x : Int)) _ w rfl fun i hi => ?_
  rw [hc i hi]
  unfold b64at
  have : i < b64.length := hi
  simp [this]
theorem and255_u16 (x : Int) (h0 : 0 ≤ x) (h1 : x ≤ 65535) : bits .and .u16 x 255 = x % 256 := by
  obtain ⟨n, rfl⟩ := Int.eq_ofNat_of_zero_le h0
  show IntKind.u16.wrap ((BitVec.ofInt 16 (n : Int) &&& BitVec.ofInt 16 255).toNat : Int) = _
  rw [BitVec.toNat_and, BitVec.ofInt_natCast, BitVec.toNat_ofNat, Nat.mod_eq_of_lt (by omega), show (BitVec.ofInt 16 255).toNat = 255 from rfl, show (n &&& 255) = n % 256 from Nat.and_two_pow_sub_one_eq_mod n 8, IntKind.wrap_u16]
  omega
theorem and1_i32 (s : Int) : bits .and .i32 s 1 = s % 2 := by
  show IntKind.i32.wrap ((BitVec.ofInt 32 s &&& BitVec.ofInt 32 1).toNat : Int) = _
  rw [BitVec.toNat_and, BitVec.toNat_ofInt, show (BitVec.ofInt 32 1).toNat = 1 from rfl, Nat.and_one_is_mod, IntKind.wrap_i32]
  omega
theorem and1_i64 (s : Int) : bits .and .i64 s 1 = s % 2 := by
  show IntKind.i64.wrap ((BitVec.ofInt 64 s &&& BitVec.ofInt 64 1).toNat : Int) = _
  rw [BitVec.toNat_and, BitVec.toNat_ofInt, show (BitVec.ofInt 64 1).toNat = 1 from rfl, Nat.and_one_is_mod, IntKind.wrap_i64]
  omega
theorem low32 (m : Nat) (h : m < 9223372036854775808) : bits .and .i64 (m : Int) 4294967295 = ((m % 4294967296 : Nat) : Int) := by
  have := i64_and_nat m 4294967295 h (by omega)
  rw [show (m &&& 4294967295) = m % 4294967296 from Nat.and_two_pow_sub_one_eq_mod m 32] at this
  exact this
theorem sval_lo (m q : Nat) (hq : q = m % 4294967296) (h : q < 2147483648) : sval (IntKind.i32.wrap (m : Int)) = if (q : Int) % 2 = 1 then -(((q : Int) - (q : Int) % 2) / 2) else ((q : Int) - (q : Int) % 2) / 2 := by
  have e : IntKind.i32.wrap (m : Int) = (q : Int) := by rw [IntKind.wrap_i32]; omega
  rw [e, sval]
  by_cases h2 : (q : Int) % 2 = 1
  · rw [if_pos h2, if_neg (by omega)]; omega
  · rw [if_neg h2, if_pos (by omega)]; omega
theorem tdiv_even (s : Int) (h : s % 2 = 0) : s.tdiv 2 = s / 2 := by
  obtain ⟨t, rfl⟩ : ∃ t, s = 2 * t := ⟨s / 2, by omega⟩
  rw [Int.mul_tdiv_cancel_left t (by decide)]; omega
theorem sval_hi (m q : Nat) (hq : q = m % 4294967296) (h : 2147483648 ≤ q) : sval (IntKind.i32.wrap (m : Int)) = if (q : Int) % 2 = 1 then -(((q : Int) - 4294967296 - (q : Int) % 2) / 2) else ((q : Int) - 4294967296 - (q : Int) % 2) / 2 := by
  have e : IntKind.i32.wrap (m : Int) = (q : Int) - 4294967296 := by rw [IntKind.wrap_i32]; omega
  rw [e, sval]
  by_cases h2 : (q : Int) % 2 = 1
  · rw [if_pos h2, if_neg (by omega)]; omega
  · rw [if_neg h2, if_pos (by omega)]; omega
set_option maxRecDepth 100000 in
theorem sgn_any (m : Nat) (w : World) (h : m < 34359738368) : Calls Tryd.prog 13 #[.int .i64 m] w fun e w' => e = .returned (.int .i64 (sval (IntKind.i32.wrap (m : Int)))) ∧ w = w' := by
  obtain ⟨q, hq⟩ : ∃ q, q = m % 4294967296 := ⟨_, rfl⟩
  have e1 : bits .and .i64 (m : Int) 4294967295 = (q : Int) := by rw [low32 m (by omega), hq]
  obtain ⟨r, hr⟩ : ∃ r, r = sval (IntKind.i32.wrap (m : Int)) := ⟨_, rfl⟩
  have HR := Lib.hid hr
  have HQ := Lib.hid hq
  have hq1 : q < 4294967296 := by omega
  rw [← hr]
  clear hr hq
  rcases (show q < 2147483648 ∨ 2147483648 ≤ q by omega) with h1 | h1
  · have e2 : bits .and .i64 (q : Int) 1 = (q : Int) % 2 := and1_i64 _
    have d1 : decide ((2147483648 : Int) ≤ (q : Int)) = false := by simp; omega
    have HS := Lib.hid (sval_lo m q HQ.out h1)
    rcases (show (q : Int) % 2 = 1 ∨ (q : Int) % 2 ≠ 1 by omega) with hp | hp
    · have d2 : ((q : Int) % 2 == 1) = true := by simpa using hp
      have HP := Lib.hid hp
      clear hp
      go_enter Tryd.func13, Tryd.ntmps13
      go_wp2
      go_ret
      exact ⟨ret_int (by rw [HR.out, HS.out, if_pos HP.out]), rfl⟩
    · have d2 : ((q : Int) % 2 == 1) = false := by simpa using hp
      have HP := Lib.hid hp
      clear hp
      go_enter Tryd.func13, Tryd.ntmps13
      go_wp2
      go_ret
      exact ⟨ret_int (by rw [HR.out, HS.out, if_neg HP.out]), rfl⟩
  · have e2 : bits .and .i64 (q : Int) 1 = (q : Int) % 2 := and1_i64 _
    have e3 : bits .and .i64 ((q : Int) - 4294967296) 1 = (q : Int) % 2 := by rw [and1_i64]; omega
    have d1 : decide ((2147483648 : Int) ≤ (q : Int)) = true := by simp; omega
    have HS := Lib.hid (sval_hi m q HQ.out h1)
    have HT := Lib.hid (tdiv_even ((q : Int) - 4294967296 - (q : Int) % 2) (by omega))
    rcases (show (q : Int) % 2 = 1 ∨ (q : Int) % 2 ≠ 1 by omega) with hp | hp
    · have d2 : ((q : Int) % 2 == 1) = true := by simpa using hp
      have HP := Lib.hid hp
      clear hp
      go_enter Tryd.func13, Tryd.ntmps13
      go_wp2
      go_ret
      exact ⟨ret_int (by rw [HR.out, HS.out, if_pos HP.out, HT.out, IntWalk.wrap64_in _ ⟨by omega, by omega⟩]), rfl⟩
    · have d2 : ((q : Int) % 2 == 1) = false := by simpa using hp
      have HP := Lib.hid hp
      clear hp
      go_enter Tryd.func13, Tryd.ntmps13
      go_wp2
      go_ret
      exact ⟨ret_int (by rw [HR.out, HS.out, if_neg HP.out, HT.out]), rfl⟩
theorem Tab.mono {w : World} {B B' : Nat} (h : Tab w B) (hB : B ≤ B') : Tab w B' := by
  obtain ⟨h0, R, o, c, hR, h1, h2⟩ := h
  exact ⟨by omega, R, o, c, by omega, h1, h2⟩
/-- the digit of a unit, as the law's own functions take it -/
theorem unit_facts (zs : List Int) (k : Nat) (hw : 0 ≤ nth zs k ∧ nth zs k ≤ 65535) : ∃ c : Int, 0 ≤ c ∧ c ≤ 255 ∧ bits .and .u16 (nth zs k) 255 = c ∧ IntKind.u8.wrap c = c ∧ IntKind.u8.wrap (nth zs k) = c ∧ Hid (bi c = ud zs k) :=
  ⟨nth zs k % 256, by omega, by omega, and255_u16 _ hw.1 hw.2, by rw [IntKind.wrap_u8]; omega, by rw [IntKind.wrap_u8], Lib.hid rfl⟩
theorem scan_ends (ao : Option Addr) (cap e : Nat) (zs : List Int) (w : World) (hin : In .u16 w ao zs) (hl : zs.length ≤ 1048576) (hb : ∀ i, i < zs.length → 0 ≤ nth zs i ∧ nth zs i ≤ 65535) (hE : Ends zs e) :
    Calls Tryd.prog 10 #[.slice ao zs.length cap] w fun en w' => en = .returned (.tuple #[.int .i64 e, .bool true]) ∧ w = w' := by
  have HI := Lib.hid (And.intro hin (And.intro hb hE))
  have h1 := hE.1
  have h2 := hE.2.1
  clear hin hb hE
  go_enter Tryd.func10, Tryd.ntmps10
  go_wp2
  go_loopw [4] (fun x wr => ∃ j : Nat, j < e ∧ x = .int .i64 j ∧ wr = w) (fun x _ => e - (intOf x).toNat)
  case atStart => exact ⟨0, by omega, rfl, rfl⟩
  case round =>
    obtain ⟨j, hj, rfl, rfl⟩ := hrel
    obtain ⟨b, off, hx, hlt, hc⟩ := HI.out.1.at (i := j) (by omega)
    subst hx
    obtain ⟨c, c0, c1, c2, c3, c4, HC⟩ := unit_facts zs j (HI.out.2.1 j (by omega))
    have i0 : (0 : Int) ≤ (j : Int) := by omega
    have i1 : (j : Int) < (zs.length : Int) := by omega
    go_wp2_with fail
    refine (bi_any c _ c0 c1).mono ?_
    rintro en w1 ⟨he, rfl⟩
    rw [HC.out] at he
    have hub := ud_bd zs j
    rcases (show j + 1 = e ∨ j + 1 < e by omega) with hje | hje
    · have hq := HI.out.2.2.2.2.2
      rw [← hje, Nat.add_sub_cancel] at hq
      obtain ⟨n, hn⟩ := Int.eq_ofNat_of_zero_le hq.1
      rw [hn] at he hq
      subst he
      have a1 : bits .and .i64 (n : Int) 32 = 0 := by rw [and32_i n (by omega), if_neg (by omega)]
      have HJ := Lib.hid hje
      clear hje hn hub c2 c3 c4
      go_wp2
      go_ret2
      exact ⟨by rw [← HJ.out]; rfl, rfl⟩
    · have hq := HI.out.2.2.2.2.1 j hje
      obtain ⟨n, hn⟩ := Int.eq_ofNat_of_zero_le (show 0 ≤ ud zs j by omega)
      rw [hn] at he hq hub
      subst he
      have a1 : bits .and .i64 (n : Int) 32 = 32 := by rw [and32_i n (by omega), if_pos (by omega)]
      clear hn c2 c3 c4
      go_wp2
      go_roundw
      case rel => exact ⟨j + 1, by omega, by go_num, trivial⟩
      case measure => simp [intOf]; omega
theorem scan_runs (ao : Option Addr) (cap e : Nat) (zs : List Int) (w : World) (hin : In .u16 w ao zs) (hl : zs.length ≤ 1048576) (hb : ∀ i, i < zs.length → 0 ≤ nth zs i ∧ nth zs i ≤ 65535) (hE : Runs zs e) :
    Calls Tryd.prog 10 #[.slice ao zs.length cap] w fun en w' => en = .returned (.tuple #[.int .i64 e, .bool false]) ∧ w = w' := by
  have HI := Lib.hid (And.intro hin (And.intro hb hE))
  have h2 := hE.1
  clear hin hb hE
  go_enter Tryd.func10, Tryd.ntmps10
  go_wp2
  go_loopw [4] (fun x wr => ∃ j : Nat, j ≤ e ∧ x = .int .i64 j ∧ wr = w) (fun x _ => e - (intOf x).toNat)
  case atStart => exact ⟨0, by omega, rfl, rfl⟩
  case round =>
    obtain ⟨j, hj, rfl, rfl⟩ := hrel
    rcases (show j = zs.length ∨ j < zs.length by omega) with rfl | hjl
    · obtain rfl : e = zs.length := by omega
      go_wp2
      go_ret2
      exact ⟨rfl, rfl⟩
    obtain ⟨b, off, hx, hlt, hc⟩ := HI.out.1.at (i := j) hjl
    subst hx
    obtain ⟨c, c0, c1, c2, c3, c4, HC⟩ := unit_facts zs j (HI.out.2.1 j hjl)
    have i0 : (0 : Int) ≤ (j : Int) := by omega
    have i1 : (j : Int) < (zs.length : Int) := by omega
    go_wp2_with fail
    refine (bi_any c _ c0 c1).mono ?_
    rintro en w1 ⟨he, rfl⟩
    rw [HC.out] at he
    have hub := ud_bd zs j
    rcases (show j = e ∨ j < e by omega) with rfl | hje
    · have hq : ud zs j < 0 := by
        rcases HI.out.2.2.2.2 with h | h
        · omega
        · exact h.2
      have h1 : ud zs j = -1 := by omega
      rw [h1] at he
      subst he
      clear hub hq h1 c2 c3 c4
      go_wp2
      go_ret2
      exact ⟨rfl, rfl⟩
    · have hq := HI.out.2.2.2.1 j hje
      obtain ⟨n, hn⟩ := Int.eq_ofNat_of_zero_le (show 0 ≤ ud zs j by omega)
      rw [hn] at he hq hub
      subst he
      have a1 : bits .and .i64 (n : Int) 32 = 32 := by rw [and32_i n (by omega), if_pos (by omega)]
      clear hn c2 c3 c4
      go_wp2
      go_roundw
      case rel => exact ⟨j + 1, by omega, by go_num, trivial⟩
      case measure => simp [intOf]; omega
theorem horner_any (ao : Option Addr) (cap to : Nat) (tt : Int) (zs : List Int) (w : World) (htt : tt = (to : Int)) (hin : In .u16 w ao zs) (hl : zs.length ≤ 1048576) (hto : to ≤ zs.length) (h7 : to ≤ 7) (hb : ∀ i, i < zs.length → 0 ≤ nth zs i ∧ nth zs i ≤ 65535) (hd : ∀ i, i < to → 0 ≤ ud zs i) :
    Calls Tryd.prog 12 #[.slice ao zs.length cap, .int .i64 tt] w fun en w' => en = .returned (.int .i64 (hw zs 0 to : Nat)) ∧ w = w' := by
  subst htt
  have HI := Lib.hid (And.intro hin (And.intro hb hd))
  clear hin hb hd
  go_enter Tryd.func12, Tryd.ntmps12
  go_wp2
  go_loopw [5, 6] (fun a x wr => ∃ j : Nat, j ≤ to ∧ x = .int .i64 ((j : Int) - 1) ∧ a = .int .i64 (hw zs j (to - j) : Nat) ∧ wr = w) (fun _ x _ => ((intOf x) + 1).toNat)
  case atStart => exact ⟨to, Nat.le_refl _, rfl, by rw [Nat.sub_self]; rfl, rfl⟩
  case round =>
    obtain ⟨j, hj, rfl, rfl, rfl⟩ := hrel
    rcases j with _ | i
    · rw [Nat.sub_zero]
      go_wp2
      go_ret
      exact ⟨rfl, rfl⟩
    · have ei : (((i + 1 : Nat) : Int) - 1) = (i : Int) := by omega
      rw [ei]
      obtain ⟨V1, hV1⟩ : ∃ V1, V1 = hw zs (i + 1) (to - (i + 1)) := ⟨_, rfl⟩
      have hv1 : V1 < 34359738368 := by
        have h1 := hw_lt zs (to - (i + 1)) (i + 1)
        have h2 : (32 : Nat) ^ (to - (i + 1)) ≤ 32 ^ 7 := Nat.pow_le_pow_right (by decide) (by omega)
        have h3 : (32 : Nat) ^ 7 = 34359738368 := by decide
        omega
      have hstep : hw zs i (to - i) = (ud zs i).toNat % 32 + 32 * V1 := by
        rw [hV1, show to - i = (to - (i + 1)) + 1 from by omega, hw]
      rw [← hV1]
      obtain ⟨b, off, hx, hlt, hc⟩ := HI.out.1.at (i := i) (by omega)
      subst hx
      obtain ⟨c, c0, c1, c2, c3, c4, HC⟩ := unit_facts zs i (HI.out.2.1 i (by omega))
      have i0 : (0 : Int) ≤ (i : Int) := by omega
      have i1 : (i : Int) < (zs.length : Int) := by omega
      obtain ⟨n, hn⟩ := Int.eq_ofNat_of_zero_le (HI.out.2.2 i (by omega))
      have hub := ud_bd zs i
      rw [hn] at hub hstep
      obtain ⟨r, hr⟩ : ∃ r, r = n % 32 := ⟨_, rfl⟩
      have a1 : bits .and .i64 (n : Int) 31 = (r : Int) := by rw [and31 n (by omega), hr]
      have hr1 : r < 32 := by omega
      have HS : Hid (hw zs i (to - i) = r + 32 * V1) := Lib.hid (by rw [hstep, hr]; rfl)
      have HN := Lib.hid hn
      clear hV1 hstep ei hn hub hr
      go_wp2_with fail
      refine (bi_any c _ c0 c1).mono ?_
      rintro en w1 ⟨he, rfl⟩
      rw [HC.out, HN.out] at he
      subst he
      clear c2 c3 c4
      go_wp2
      go_roundw
      case rel => exact ⟨i, by omega, by congr 1, by rw [HS.out]; congr 1; omega, trivial⟩
      case measure => simp [intOf]
set_option maxRecDepth 100000 in
theorem dec_ends (ao : Option Addr) (cap e : Nat) (zs : List Int) (w : World) (ht : Tab w w.heap.size) (hin : In .u16 w ao zs) (hl : zs.length ≤ 1048576) (hb : ∀ i, i < zs.length → 0 ≤ nth zs i ∧ nth zs i ≤ 65535) (hE : Ends zs e) :
    Calls Tryd.prog 11 #[.slice ao zs.length cap] w fun en w' => en = .returned (.tuple #[.int .i32 (sval (acc zs e)), .int .i64 e, .bool true]) ∧ Below w.heap.size w w' := by
  have HI := Lib.hid (And.intro hin (And.intro hb (And.intro hE ht)))
  have h1 := hE.1
  have h2 := hE.2.1
  have d0 : ((zs.length : Int) == 0) = false := beq_eq_false_iff_ne.2 (by omega)
  clear hin hb hE ht
  go_enter Tryd.func11, Tryd.ntmps11
  go_wp2
  go_loopw [6, 7, 8] (fun x s v wr => ∃ j : Nat, j < e ∧ x = .int .i64 j ∧ s = .int .i64 (5 * j : Nat) ∧ v = .int .i32 (acc zs j) ∧ Hid (Below w.heap.size w wr)) (fun x _ _ _ => e - (intOf x).toNat)
  case atStart => exact ⟨0, by omega, rfl, rfl, by rw [acc_zero], Lib.hid (Below.refl _ _)⟩
  case round =>
    obtain ⟨j, hj, rfl, rfl, rfl, HB⟩ := hrel
    obtain ⟨b, off, hx, hlt, hc⟩ := HI.out.1.at (i := j) (by omega)
    subst hx
    have hc' := (HB.out.cell (p := ⟨b, off + j, none⟩) hlt).trans hc
    obtain ⟨_, R, o, cc, hR, t0, tT⟩ := HI.out.2.2.2.below HB.out
    have HTT := Lib.hid tT
    obtain ⟨c, c0, c1, c2, c3, c4, HC⟩ := unit_facts zs j (HI.out.2.1 j (by omega))
    have i0 : (0 : Int) ≤ (j : Int) := by omega
    have i1 : (j : Int) < (zs.length : Int) := by omega
    have hub := ud_bd zs j
    obtain ⟨n, hn⟩ : ∃ n : Nat, ud zs j = n := by
      refine Int.eq_ofNat_of_zero_le ?_
      rcases (show j + 1 = e ∨ j + 1 < e by omega) with hje | hje
      · have hq := HI.out.2.2.1.2.2.2
        rw [← hje, Nat.add_sub_cancel] at hq
        exact hq.1
      · have hq := HI.out.2.2.1.2.2.1 j hje
        omega
    have hbc : bi c = (n : Int) := HC.out.trans hn
    have hs0 : (0 : Int) ≤ 5 * (j : Int) := by omega
    obtain ⟨r, hr⟩ : ∃ r, r = n % 32 := ⟨_, rfl⟩
    have a31 : bits .and .i32 (n : Int) 31 = (r : Int) := by rw [and31_i32 n (by omega), hr]
    have hr1 : r < 32 := by omega
    have aA : bits .or .i32 (acc zs j) (wrap32 ((r : Int) * 2 ^ min (5 * j) 32)) = acc zs (j + 1) := acc_step' zs j r (by rw [hn, hr]; rfl)
    have aB := acc_bd zs (j + 1)
    have aP : bits .and .i32 (acc zs (j + 1)) 1 = acc zs (j + 1) % 2 := and1_i32 _
    have hn64 : n < 64 := by omega
    have hwn : IntKind.i32.wrap (n : Int) = (n : Int) := by rw [IntKind.wrap_i32]; omega
    have HN := Lib.hid hn
    obtain ⟨aB1, aB2⟩ := aB
    have k0 : decide ((n : Int) < 0) = false := by simp
    clear hc tT hub hn hr
    rcases (show j + 1 = e ∨ j + 1 < e by omega) with hje | hje
    · have hq := HI.out.2.2.1.2.2.2.2
      rw [← hje, Nat.add_sub_cancel, HN.out] at hq
      have a32 : bits .and .i32 (n : Int) 32 = 0 := by rw [and32_i32 n (by omega), if_neg (by omega)]
      subst hje
      rcases (show acc zs (j + 1) % 2 = 0 ∨ acc zs (j + 1) % 2 = 1 by omega) with hp | hp
      · have HP := Lib.hid (show sval (acc zs (j + 1)) = acc zs (j + 1) / 2 by rw [sval, if_pos hp])
        rw [hp] at aP
        clear hp
        go_wp2
        go_quiet ((go_at_call 45; exact Calls.quiet_of_same (idx_any _ _ _ _ _ c0 c1 HTT.out)))
        clear c2 c3 c4 t0 hc'
        go_wp2
        go_ret3
        exact ⟨by rw [HP.out]; rfl, below_drewN HB.out _⟩
      · have HP := Lib.hid (show sval (acc zs (j + 1)) = -(acc zs (j + 1) / 2) by rw [sval, if_neg (by omega)])
        rw [hp] at aP
        clear hp
        go_wp2
        go_quiet ((go_at_call 45; exact Calls.quiet_of_same (idx_any _ _ _ _ _ c0 c1 HTT.out)))
        clear c2 c3 c4 t0 hc'
        go_wp2
        go_ret3
        exact ⟨by rw [HP.out]; rfl, below_drewN HB.out _⟩
    · have hq := HI.out.2.2.1.2.2.1 j hje
      rw [HN.out] at hq
      have a32 : bits .and .i32 (n : Int) 32 = 32 := by rw [and32_i32 n (by omega), if_pos (by omega)]
      go_wp2
      go_quiet ((go_at_call 45; exact Calls.quiet_of_same (idx_any _ _ _ _ _ c0 c1 HTT.out)))
      clear c2 c3 c4 t0 hc'
      go_wp2
      go_roundw
      case rel => exact ⟨j + 1, hje, by go_num, by congr 1, rfl, Lib.hid (below_drewN HB.out _)⟩
      case measure => simp [intOf]; omega
set_option maxRecDepth 100000 in
theorem dec_runs (ao : Option Addr) (cap e : Nat) (zs : List Int) (w : World) (ht : Tab w w.heap.size) (hin : In .u16 w ao zs) (hl : zs.length ≤ 1048576) (hb : ∀ i, i < zs.length → 0 ≤ nth zs i ∧ nth zs i ≤ 65535) (hE : Runs zs e) :
    Calls Tryd.prog 11 #[.slice ao zs.length cap] w fun en w' => en = .returned (.tuple #[.int .i32 0, .int .i64 0, .bool false]) ∧ Below w.heap.size w w' := by
  have HI := Lib.hid (And.intro hin (And.intro hb (And.intro hE ht)))
  have h2 := hE.1
  clear hin hb hE ht
  rcases Nat.eq_zero_or_pos zs.length with hz | hz
  · have d0 : ((zs.length : Int) == 0) = true := by rw [hz]; rfl
    clear hz
    go_enter Tryd.func11, Tryd.ntmps11
    go_wp2
    go_ret3
    exact ⟨rfl, Below.refl _ _⟩
  have d0 : ((zs.length : Int) == 0) = false := beq_eq_false_iff_ne.2 (by omega)
  go_enter Tryd.func11, Tryd.ntmps11
  go_wp2
  go_loopw [6, 7, 8] (fun x s v wr => ∃ j : Nat, j ≤ e ∧ x = .int .i64 j ∧ s = .int .i64 (5 * j : Nat) ∧ v = .int .i32 (acc zs j) ∧ Hid (Below w.heap.size w wr)) (fun x _ _ _ => e - (intOf x).toNat)
  case atStart => exact ⟨0, by omega, rfl, rfl, by rw [acc_zero], Lib.hid (Below.refl _ _)⟩
  case round =>
    obtain ⟨j, hj, rfl, rfl, rfl, HB⟩ := hrel
    rcases (show j = zs.length ∨ j < zs.length by omega) with rfl | hjl
    · go_wp2
      go_ret3
      exact ⟨rfl, HB.out⟩
    obtain ⟨b, off, hx, hlt, hc⟩ := HI.out.1.at (i := j) hjl
    subst hx
    have hc' := (HB.out.cell (p := ⟨b, off + j, none⟩) hlt).trans hc
    obtain ⟨_, R, o, cc, hR, t0, tT⟩ := HI.out.2.2.2.below HB.out
    have HTT := Lib.hid tT
    obtain ⟨c, c0, c1, c2, c3, c4, HC⟩ := unit_facts zs j (HI.out.2.1 j (by omega))
    have i0 : (0 : Int) ≤ (j : Int) := by omega
    have i1 : (j : Int) < (zs.length : Int) := by omega
    have hub := ud_bd zs j
    rcases (show j = e ∨ j < e by omega) with rfl | hje
    · have hq : ud zs j < 0 := by
        rcases HI.out.2.2.1.2.2 with h | h
        · omega
        · exact h.2
      have hbc : bi c = -1 := by rw [HC.out]; omega
      have hw1 : IntKind.i32.wrap (-1) = -1 := by rw [IntKind.wrap_i32]; rfl
      clear hc tT hub hq
      go_wp2
      go_quiet ((go_at_call 45; exact Calls.quiet_of_same (idx_any _ _ _ _ _ c0 c1 HTT.out)))
      clear c2 c3 c4 t0 hc'
      go_wp2
      go_ret3
      exact ⟨rfl, below_drewN HB.out _⟩
    · have hq := HI.out.2.2.1.2.1 j hje
      obtain ⟨n, hn⟩ := Int.eq_ofNat_of_zero_le (show 0 ≤ ud zs j by omega)
      have hbc : bi c = (n : Int) := HC.out.trans hn
      have hs0 : (0 : Int) ≤ 5 * (j : Int) := by omega
      obtain ⟨r, hr⟩ : ∃ r, r = n % 32 := ⟨_, rfl⟩
      have hn64 : n < 64 := by omega
      have a31 : bits .and .i32 (n : Int) 31 = (r : Int) := by rw [and31_i32 n (by omega), hr]
      have hr1 : r < 32 := by omega
      have aA : bits .or .i32 (acc zs j) (wrap32 ((r : Int) * 2 ^ min (5 * j) 32)) = acc zs (j + 1) := acc_step' zs j r (by rw [hn, hr]; rfl)
      have a32 : bits .and .i32 (n : Int) 32 = 32 := by rw [and32_i32 n (by omega), if_pos (by omega)]
      have hwn : IntKind.i32.wrap (n : Int) = (n : Int) := by rw [IntKind.wrap_i32]; omega
      have k0 : decide ((n : Int) < 0) = false := by simp
      clear hc tT hub hn hr hq
      go_wp2
      go_quiet ((go_at_call 45; exact Calls.quiet_of_same (idx_any _ _ _ _ _ c0 c1 HTT.out)))
      clear c2 c3 c4 t0 hc'
      go_wp2
      go_roundw
      case rel => exact ⟨j + 1, by omega, by go_num, by congr 1, rfl, Lib.hid (below_drewN HB.out _)⟩
      case measure => simp [intOf]; omega
end Go.Proofs.YtfennlkojhnhjaaDoor
