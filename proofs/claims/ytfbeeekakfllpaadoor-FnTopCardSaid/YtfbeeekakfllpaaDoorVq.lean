/-
  zzB64Val and zzVLQ: one number of the mappings' text is read. No statement of the seat is proved here.
-/
import Derived.Test.YtfbeeekakfllpaaDoorSx
import Derived.Test.YtfbeeekakfllpaaDoorTk
import Derived.Test.YtfbeeekakfllpaaDoorBits
import Derived.Test.YtfbeeekakfllpaaDoorShelf
import Derived.Test.YtfbeeekakfllpaaDoorRd
import Derived.Deep.CutBlock
namespace Go.Proofs.YtfbeeekakfllpaaDoor
open Go.RowKit
set_option linter.unusedVariables false
set_option linter.unusedSimpArgs false
theorem val_snoc (l : List Nat) (d : Nat) : val (l ++ [d]) = val l + 32 ^ l.length * (d % 32) := by
  induction l with
  | nil => simp [val]
  | cons x l ih =>
    rw [List.cons_append, val, ih, val, List.length_cons, Nat.pow_succ]
    have : 32 * (32 ^ l.length * (d % 32)) = 32 ^ l.length * 32 * (d % 32) := by rw [← Nat.mul_assoc, Nat.mul_comm 32]
    omega
theorem val_lt (l : List Nat) : val l < 32 ^ l.length := by
  induction l with
  | nil => simp [val]
  | cons x l ih => rw [val, List.length_cons, Nat.pow_succ]; omega
theorem or_part (P d j : Nat) (hP : P < 32 ^ j) (hd : d < 32) (hj : j ≤ 6) : bits .or .i64 (P : Int) ((d * 32 ^ j : Nat) : Int) = ((P + 32 ^ j * d : Nat) : Int) := by
  have h6 : 32 ^ j ≤ 32 ^ 6 := Nat.pow_le_pow_right (by decide) hj
  have hm : d * 32 ^ j ≤ 31 * 32 ^ 6 := Nat.mul_le_mul (by omega) h6
  have e6 : (32 : Nat) ^ 6 = 1073741824 := by decide
  rw [i64_or_nat P (d * 32 ^ j) (by omega) (by omega)]
  have := Nat.two_pow_add_eq_or_of_lt (i := 5 * j) (b := P) (by rw [Nat.pow_mul]; exact hP) d
  rw [Nat.pow_mul] at this
  rw [Nat.mul_comm d, Nat.or_comm, show 32 ^ j * d ||| P = 32 ^ j * d + P from this.symm, Nat.add_comm]
theorem vlq_lt (z : Int) (h : Bnd z) : vlq z < 2147483648 := by unfold vlq; obtain ⟨h1, h2⟩ := h; split <;> omega
theorem vlq_back (z : Int) : (vlq z % 2 = 1 → z = -((vlq z / 2 : Nat) : Int)) ∧ (vlq z % 2 = 0 → z = ((vlq z / 2 : Nat) : Int)) := by unfold vlq; split <;> omega
theorem enc_nth (z : Int) (j : Nat) (h : j < (enc z).length) : ∃ d : Nat, d < 64 ∧ (dgs 7 (vlq z))[j]? = some d ∧ nth (enc z) j = ((b64at d : Nat) : Int) ∧ (dgs 7 (vlq z)).take (j + 1) = (dgs 7 (vlq z)).take j ++ [d] := by
  have hl : j < (dgs 7 (vlq z)).length := by unfold enc at h; simpa using h
  refine ⟨(dgs 7 (vlq z))[j], dgs_lt 7 _ _ (List.getElem_mem hl), by simp [hl], ?_, by rw [List.take_succ_eq_append_getElem hl]⟩
  unfold enc nth
  simp [hl]
theorem enc_cont (z : Int) (hz : Bnd z) (j d : Nat) (h : j < (enc z).length) (hd : (dgs 7 (vlq z))[j]? = some d) : 32 ≤ d ↔ j + 1 < (enc z).length := by
  have hl : (enc z).length = (dgs 7 (vlq z)).length := by unfold enc; simp
  have := dgs_cont 7 (vlq z) (by have := vlq_lt z hz; omega) j (by omega)
  rw [List.getD_eq_getElem?_getD, hd] at this
  rw [hl]; exact this
theorem new_part (P d j v : Nat) (hP : P < 32 ^ j) (hj : j ≤ 6) (hv : v = P + 32 ^ j * (d % 32)) : bits .or .i64 (P : Int) (wrap64 ((d : Int) % 32 * 2 ^ (5 * j))) = (v : Int) := by
  have h6 : 32 ^ j ≤ 32 ^ 6 := Nat.pow_le_pow_right (by decide) hj
  have hm : d % 32 * 32 ^ j ≤ 31 * 32 ^ 6 := Nat.mul_le_mul (by omega) h6
  have e6 : (32 : Nat) ^ 6 = 1073741824 := by decide
  have e0 : ((d : Int) % 32 * 2 ^ (5 * j)) = ((d % 32 * 32 ^ j : Nat) : Int) := by
    rw [show (32 : Nat) = 2 ^ 5 from rfl, ← Nat.pow_mul]; push_cast; rfl
  rw [e0, show wrap64 ((d % 32 * 32 ^ j : Nat) : Int) = ((d % 32 * 32 ^ j : Nat) : Int) by unfold wrap64; omega, or_part P (d % 32) j hP (by omega) hj, hv]
theorem and_one (V : Nat) (h : V < 2147483648) : bits .and .i64 (V : Int) 1 = ((V % 2 : Nat) : Int) := by
  have := i64_and_nat V 1 (by omega) (by omega)
  rw [Nat.and_one_is_mod] at this
  exact this
/-- the digits of z stand at p -/
def NumAt (zs : List Int) (p : Nat) (z : Int) : Prop := ∀ j, j < (enc z).length → p + j < zs.length ∧ nth zs (p + j) = nth (enc z) j
def b64s : ByteArray := ⟨#[65, 66, 67, 68, 69, 70, 71, 72, 73, 74, 75, 76, 77, 78, 79, 80, 81, 82, 83, 84, 85, 86, 87, 88, 89, 90, 97, 98, 99, 100, 101, 102, 103, 104, 105, 106, 107, 108, 109, 110, 111, 112, 113, 114, 115, 116, 117, 118, 119, 120, 121, 122, 48, 49, 50, 51, 52, 53, 54, 55, 56, 57, 43, 47]⟩
theorem b64s_index : ∀ d : Nat, d < 64 → Lib.indexByte b64s.data.toList (((b64at d : Nat) : Int).toNat.toUInt8) = (d : Int) := by decide +kernel
theorem ib_any (d cb : Nat) (w : World) (hd : d < 64) (hcb : b64at d = cb) : Calls Tryd.prog 41 #[.string b64s, .int .u8 (cb : Nat)] w fun e w' => e = .returned (.int .i64 (d : Nat)) ∧ w' = w := by
  subst hcb
  have := Tryd.strings_IndexByte b64s ((b64at d : Nat) : Int) w
  rw [b64s_index d hd] at this
  exact this
set_option maxRecDepth 100000 in
theorem bv_any (d cb : Nat) (w : World) (hd : d < 64) (hcb : b64at d = cb) : Calls Tryd.prog 34 #[.int .u8 (cb : Nat)] w fun e w' => e = .returned (.int .i64 (d : Nat)) ∧ w' = w := by
  have HC := Lib.hid (And.intro hd hcb)
  clear hcb hd
  go_enter Tryd.func34, Tryd.ntmps34
  go_wp2_with (go_at_call 41; refine (ib_any d cb _ HC.out.1 HC.out.2).mono ?_; rintro e w1 ⟨rfl, rfl⟩)
  go_ret
  exact ⟨rfl, rfl⟩
/-- what the loop over the digits knows -/
def GIv (p : Nat) (z : Int) (w : World) (k : Nat) (v1 v7 v8 : Value) (wr : World) : Prop := ∃ j : Nat, j < (enc z).length ∧ (enc z).length - j ≤ k ∧ v1 = .int .i64 (p + j : Nat) ∧ v8 = .int .i64 (5 * j : Nat) ∧ v7 = .int .i64 (val ((dgs 7 (vlq z)).take j) : Nat) ∧ wr = w
/-- its end -/
def GVe (p : Nat) (z : Int) (w : World) (v1 v7 : Value) (wr : World) : Prop := v1 = .int .i64 (p + (enc z).length : Nat) ∧ v7 = .int .i64 (vlq z : Nat) ∧ wr = w
def IsDv (p : Nat) (z : Int) (w : World) (e : Ending) (w' : World) : Prop := e = .returned (.tuple #[.int .i64 z, .int .i64 (p + (enc z).length : Nat), .bool true]) ∧ w' = w
set_option maxRecDepth 100000 in
set_option maxHeartbeats 4000000 in
theorem zv_any (ao : Option Addr) (cap n : Nat) (zs : List Int) (p : Nat) (z : Int) (w : World) (hn : zs.length = n) (hin : In .u8 w ao zs) (hl : n ≤ 1073741824) (hz : Bnd z) (hs : NumAt zs p z) :
    Calls Tryd.prog 23 #[.slice ao n cap, .int .i64 p] w (IsDv p z w) := by
  have HI := Lib.hid (And.intro hin (And.intro hn (And.intro hz hs)))
  clear hin hn hz hs
  have hel := (enc_len z).2
  have hel1 := (enc_len z).1
  have hpl : p + 1 ≤ n := by have := (HI.out.2.2.2 0 (by omega)).1; have := HI.out.2.1; omega
  go_enter Tryd.func23, Tryd.ntmps23
  go_upto_block 0 with fail
  go_cut [1, 7] (fun x y wx => GVe p z w x y wx)
  case first =>
    go_wp2_with fail
    go_loopg [1, 7, 8] ((enc z).length) (fun k a b' c wx => GIv p z w k a b' c wx)
    case atStart => exact ⟨0, by omega, Nat.le_refl _, rfl, rfl, rfl, rfl⟩
    case round =>
      obtain ⟨j, hj, hjk, rfl, rfl, rfl, hwx⟩ := hrel
      obtain ⟨d, hd, hdj, hnd, htk⟩ := enc_nth z j hj
      have hco := enc_cont z HI.out.2.2.1 j d hj hdj
      obtain ⟨q, off, hx, hq, hc⟩ := HI.out.1.at (i := p + j) (HI.out.2.2.2 j hj).1
      subst hx
      rw [(HI.out.2.2.2 j hj).2, hnd] at hc
      have hc : wr.cell? ⟨q, off + (p + j), none⟩ = some (.int .u8 (b64at d : Nat)) := by rw [hwx]; exact hc
      have HWX := Lib.hid hwx
      clear hwx
      have hpj : p + j < n := by have := (HI.out.2.2.2 j hj).1; have := HI.out.2.1; omega
      obtain ⟨P, hP⟩ : ∃ P, val ((dgs 7 (vlq z)).take j) = P := ⟨_, rfl⟩
      have hPl : P < 32 ^ j := by rw [← hP]; have := val_lt ((dgs 7 (vlq z)).take j); rwa [List.length_take, Nat.min_eq_left (by unfold enc at hj; simp at hj; omega)] at this
      rw [hP]
      have HNW : Hid (bits .or .i64 (P : Int) (wrap64 ((d : Int) % 32 * 2 ^ (5 * j))) = ((val ((dgs 7 (vlq z)).take (j + 1)) : Nat) : Int)) := Lib.hid (new_part P d j _ hPl (by omega) (by
        rw [htk, val_snoc, hP, List.length_take, Nat.min_eq_left (by unfold enc at hj; simp at hj; omega)]))
      have ha31 := and31 d (by omega)
      have ha32 := and32_i d hd
      have hb64 := b64_lt d hd
      obtain ⟨cb, hcb⟩ : ∃ cb, b64at d = cb := ⟨_, rfl⟩
      rw [hcb] at hc hb64
      have HCB := Lib.hid (And.intro hd hcb)
      clear hP hdj hnd htk hcb hPl
      obtain ⟨pj, hpj2⟩ : ∃ pj, p + j = pj := ⟨_, rfl⟩
      rw [hpj2] at hc hpj ⊢
      have HPJ := Lib.hid hpj2
      clear hpj2
      have hj5 : (j : Int) ≤ 6 := by omega
      have kd : decide ((d : Int) < 0) = false := by simp
      have i0 : (0 : Int) ≤ (pj : Int) := by omega
      have i1 : (pj : Int) < (n : Int) := by omega
      rcases (show d < 32 ∨ 32 ≤ d by omega) with hdd | hdd
      · rw [if_neg (by omega)] at ha32
        have hje : j + 1 = (enc z).length := by
          rcases Nat.lt_or_ge (j + 1) (enc z).length with h | h
          · have := hco.2 h; omega
          · omega
        have HJ : Hid (val ((dgs 7 (vlq z)).take (j + 1)) = vlq z ∧ (pj + 1 = p + (enc z).length)) := Lib.hid ⟨by
          have hl : (enc z).length = (dgs 7 (vlq z)).length := by unfold enc; simp
          rw [List.take_of_length_le (by omega), dgs_val 7 _ (by have := vlq_lt z HI.out.2.2.1; omega)], by have := HPJ.out; omega⟩
        clear hco
        go_wp2_with (go_at_call 34; refine (bv_any d cb _ HCB.out.1 HCB.out.2).mono ?_; rintro e w1 ⟨rfl, rfl⟩)
        go_meet
        exact ⟨by rw [← HJ.out.2]; go_num, by rw [HNW.out, HJ.out.1], HWX.out⟩
      · rw [if_pos hdd] at ha32
        have hje := hco.1 hdd
        obtain ⟨k', hk1, hk2⟩ : ∃ k', k' + 1 ≤ (enc z).length - j ∧ (enc z).length - (j + 1) ≤ k' := ⟨(enc z).length - (j + 1), by omega, Nat.le_refl _⟩
        clear hco
        go_wp2_with (go_at_call 34; refine (bv_any d cb _ HCB.out.1 HCB.out.2).mono ?_; rintro e w1 ⟨rfl, rfl⟩)
        go_roundg k'
        case measure => exact Nat.lt_of_lt_of_le (Nat.lt_of_succ_le hk1) hjk
        case rel => exact ⟨j + 1, hje, hk2, by rw [← HPJ.out]; go_num, by go_num, by rw [HNW.out], HWX.out⟩
  case rest =>
    obtain ⟨rfl, rfl, hwx⟩ := hcut
    have hwx1 := hwx
    subst hwx1
    clear hwx
    obtain ⟨V, hV⟩ : ∃ V, vlq z = V := ⟨_, rfl⟩
    have hVb := vlq_lt z HI.out.2.2.1
    have hvb := vlq_back z
    rw [hV] at hVb hvb ⊢
    have hand := and_one V hVb
    have HV := Lib.hid hvb
    clear hV hvb
    obtain ⟨pe, hpe3⟩ : ∃ pe, p + (enc z).length = pe := ⟨_, rfl⟩
    rw [hpe3]
    have HPE := Lib.hid hpe3
    clear hpe3
    rcases (show V % 2 = 0 ∨ V % 2 = 1 by omega) with hm | hm
    · have hzv : z = (V : Int) / 2 := by have := HV.out.1; have := HV.out.2 hm; omega
      rw [hm] at hand
      have HZV := Lib.hid hzv
      clear hzv hm
      go_wp2_with fail
      go_ret3
      exact ⟨by rw [HPE.out, HZV.out]; rfl, rfl⟩
    · have hzv : z = -((V : Int) / 2) := by have := HV.out.1 hm; omega
      rw [hm] at hand
      have HZV := Lib.hid hzv
      clear hzv hm
      go_wp2_with fail
      go_ret3
      exact ⟨by rw [HPE.out, HZV.out]; rfl, rfl⟩
end Go.Proofs.YtfbeeekakfllpaaDoor
