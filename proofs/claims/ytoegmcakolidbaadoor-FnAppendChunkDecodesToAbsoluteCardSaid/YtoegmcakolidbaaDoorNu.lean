/-
  One number of a chunk's text: zzEncodeB3 writes it, DecodeVLQ and zzDecodeB3 read it. No statement of the seat is proved here.
-/
import Derived.Test.YtoegmcakolidbaaDoorRows
import Derived.Test.YtoegmcakolidbaaDoorZa
import Derived.Test.YtoegmcakolidbaaDoorShelf
import Derived.Deep.CutBlock
import Derived.Deep.DeepCutAuto
import Derived.Deep.LoopGhost
import Derived.BigQuiet
namespace Go.Proofs.YtoegmcakolidbaaDoor
open Go.RowKit
set_option linter.unusedVariables false
/-! plain: a number's digits read one by one -/
theorem val_snoc (l : List Nat) (d : Nat) : val (l ++ [d]) = val l + 32 ^ l.length * (d % 32) := by
  induction l with
  | nil => simp [val]
  | cons x l ih =>
    rw [List.cons_append, val, ih, val, List.length_cons, Nat.pow_succ]
    have : 32 * (32 ^ l.length * (d % 32)) = 32 ^ l.length * 32 * (d % 32) := by rw [← Nat.mul_assoc, Nat.mul_comm 32]
    omega
theorem val_lt (l : List Nat) : val l < 32 ^ l.length := by
  induction l with
  | nil => simp [val]
  | cons x l ih => rw [val, List.length_cons, Nat.pow_succ]; omega
theorem or_part (P d j : Nat) (hP : P < 32 ^ j) (hd : d < 32) (hj : j ≤ 6) : bits .or .i64 (P : Int) ((d * 32 ^ j : Nat) : Int) = ((P + 32 ^ j * d : Nat) : Int) := by
  have h6 : 32 ^ j ≤ 32 ^ 6 := Nat.pow_le_pow_right (by decide) hj
  have hm : d * 32 ^ j ≤ 31 * 32 ^ 6 := Nat.mul_le_mul (by omega) h6
  have e6 : (32 : Nat) ^ 6 = 1073741824 := by decide
  rw [i64_or_nat P (d * 32 ^ j) (by omega) (by omega)]
  have := Nat.two_pow_add_eq_or_of_lt (i := 5 * j) (b := P) (by rw [Nat.pow_mul]; exact hP) d
  rw [Nat.pow_mul] at this
  rw [Nat.mul_comm d, Nat.or_comm, show 32 ^ j * d ||| P = 32 ^ j * d + P from this.symm, Nat.add_comm]
theorem vlq_lt (z : Int) (h : Bnd z) : vlq z < 2147483648 := by unfold vlq; obtain ⟨h1, h2⟩ := h; split <;> omega
theorem vlq_back (z : Int) : (vlq z % 2 = 1 → z = -((vlq z / 2 : Nat) : Int)) ∧ (vlq z % 2 = 0 → z = ((vlq z / 2 : Nat) : Int)) := by unfold vlq; split <;> omega
theorem enc_nth (z : Int) (j : Nat) (h : j < (enc z).length) : ∃ d : Nat, d < 64 ∧ (dgs 7 (vlq z))[j]? = some d ∧ nth (enc z) j = ((b64at d : Nat) : Int) ∧ (dgs 7 (vlq z)).take (j + 1) = (dgs 7 (vlq z)).take j ++ [d] := by
  have hl : j < (dgs 7 (vlq z)).length := by unfold enc at h; simpa using h
  refine ⟨(dgs 7 (vlq z))[j], dgs_lt 7 _ _ (List.getElem_mem hl), by simp [hl], ?_, by rw [List.take_succ_eq_append_getElem hl]⟩
  unfold enc nth
  simp [hl]
theorem enc_cont (z : Int) (hz : Bnd z) (j d : Nat) (h : j < (enc z).length) (hd : (dgs 7 (vlq z))[j]? = some d) : 32 ≤ d ↔ j + 1 < (enc z).length := by
  have hl : (enc z).length = (dgs 7 (vlq z)).length := by unfold enc; simp
  have := dgs_cont 7 (vlq z) (by have := vlq_lt z hz; omega) j (by omega)
  rw [List.getD_eq_getElem?_getD, hd] at this
  rw [hl]; exact this
theorem new_part (P d j v : Nat) (hP : P < 32 ^ j) (hj : j ≤ 6) (hv : v = P + 32 ^ j * (d % 32)) : bits .or .i64 (P : Int) (wrap64 ((d : Int) % 32 * 2 ^ (5 * j))) = (v : Int) := by
  have h6 : 32 ^ j ≤ 32 ^ 6 := Nat.pow_le_pow_right (by decide) hj
  have hm : d % 32 * 32 ^ j ≤ 31 * 32 ^ 6 := Nat.mul_le_mul (by omega) h6
  have e6 : (32 : Nat) ^ 6 = 1073741824 := by decide
  have e0 : ((d : Int) % 32 * 2 ^ (5 * j)) = ((d % 32 * 32 ^ j : Nat) : Int) := by
    rw [show (32 : Nat) = 2 ^ 5 from rfl, ← Nat.pow_mul]; push_cast; rfl
  rw [e0, show wrap64 ((d % 32 * 32 ^ j : Nat) : Int) = ((d % 32 * 32 ^ j : Nat) : Int) by unfold wrap64; omega, or_part P (d % 32) j hP (by omega) hj, hv]
theorem and_one (V : Nat) (h : V < 2147483648) : bits .and .i64 (V : Int) 1 = ((V % 2 : Nat) : Int) := by
  have := i64_and_nat V 1 (by omega) (by omega)
  rw [Nat.and_one_is_mod] at this
  exact this
/-- the digits of z stand at p -/
def NumAt (zs : List Int) (p : Nat) (z : Int) : Prop := ∀ j, j < (enc z).length → p + j < zs.length ∧ nth zs (p + j) = nth (enc z) j
theorem b64_index : ∀ c : Nat, c < 256 → Lib.indexByte (Lib.bytesOf (b64.map fun (x : Nat) => (x : Int))) ((c : Int).toNat.toUInt8) = bi (c : Int) := by decide +kernel
theorem idx_any (R o cc : Nat) (d cb : Nat) (w : World) (hd : d < 64) (hcb : b64at d = cb) (hc : ∀ j, j < 64 → w.cell? ⟨R, o + j, none⟩ = some (.int .u8 (b64at j : Nat))) :
    Calls Tryd.prog 32 #[.slice (some ⟨R, o, none⟩) 64 cc, .int .u8 (cb : Nat)] w fun e w' => e = .returned (.int .i64 (d : Nat)) ∧ w' = w := by
  subst hcb
  have hb := b64_lt d hd
  rw [← bi_b64 d hd, ← b64_index (b64at d) (by omega)]
  refine Tryd.bytes_IndexByte R o 64 cc (b64.map fun (x : Nat) => (x : Int)) _ w rfl fun i hi => ?_
  rw [hc i hi]
  unfold b64at
  have : i < b64.length := hi
  simp [this]
/-- what the loop over the digits knows -/
def GIv (p : Nat) (z : Int) (w : World) (k : Nat) (v1 v6 v7 : Value) (wr : World) : Prop := ∃ j m : Nat, j < (enc z).length ∧ (enc z).length - j ≤ k ∧ v1 = .int .i64 (p + j : Nat) ∧ v6 = .int .i64 (5 * j : Nat) ∧ v7 = .int .i64 (val ((dgs 7 (vlq z)).take j) : Nat) ∧ wr = w.drewN m
/-- its end -/
def GVe (p : Nat) (z : Int) (w : World) (v1 v7 : Value) (wr : World) : Prop := ∃ m, v1 = .int .i64 (p + (enc z).length : Nat) ∧ v7 = .int .i64 (vlq z : Nat) ∧ wr = w.drewN m
def IsDv (p : Nat) (z : Int) (w : World) (e : Ending) (w' : World) : Prop := e = .returned (.tuple #[.int .i64 z, .int .i64 (p + (enc z).length : Nat)]) ∧ ∃ m, w' = w.drewN m
set_option maxRecDepth 100000 in
set_option maxHeartbeats 4000000 in
theorem dv_any (ao : Option Addr) (cap n : Nat) (zs : List Int) (p : Nat) (z : Int) (w : World) (hn : zs.length = n) (hin : In .u8 w ao zs) (hl : n ≤ 1073741824) (hz : Bnd z) (hs : NumAt zs p z) (B : Nat) (ht : Tab w B) :
    Calls Tryd.prog 19 #[.slice ao n cap, .int .i64 p] w (IsDv p z w) := by
  have HI := Lib.hid (And.intro hin (And.intro hn (And.intro hz hs)))
  obtain ⟨h0, R, o, c0, hR, t0, tT⟩ := ht
  have HTT := Lib.hid tT
  clear hin hn hz hs tT
  have hel := (enc_len z).2
  have hel1 := (enc_len z).1
  have hpl : p + 1 ≤ n := by have := (HI.out.2.2.2 0 (by omega)).1; have := HI.out.2.1; omega
  go_enter Tryd.func19, Tryd.ntmps19
  go_upto_block 0 with fail
  go_cut [1, 7] (fun x y wx => GVe p z w x y wx)
  case first =>
    go_wp2_with fail
    go_loopg [1, 6, 7] ((enc z).length) (fun k a b' c wx => GIv p z w k a b' c wx)
    case atStart => exact ⟨0, 0, by omega, Nat.le_refl _, rfl, rfl, rfl, rfl⟩
    case round =>
      obtain ⟨j, mm, hj, hjk, rfl, rfl, rfl, hwx⟩ := hrel
      obtain ⟨d, hd, hdj, hnd, htk⟩ := enc_nth z j hj
      have hco := enc_cont z HI.out.2.2.1 j d hj hdj
      obtain ⟨q, off, hx, hq, hc⟩ := HI.out.1.at (i := p + j) (HI.out.2.2.2 j hj).1
      subst hx
      rw [(HI.out.2.2.2 j hj).2, hnd] at hc
      have hc : wr.cell? ⟨q, off + (p + j), none⟩ = some (.int .u8 (b64at d : Nat)) := by rw [hwx]; exact hc
      have t0 : wr.cell? ⟨0, 0, none⟩ = some (.slice (some ⟨R, o, none⟩) 64 c0) := by rw [hwx]; exact t0
      have HTW : Hid (∀ j, j < 64 → wr.cell? ⟨R, o + j, none⟩ = some (.int .u8 (b64at j : Nat))) := Lib.hid (by rw [hwx]; exact HTT.out)
      have HWX := Lib.hid hwx
      clear hwx
      have hpj : p + j < n := by have := (HI.out.2.2.2 j hj).1; have := HI.out.2.1; omega
      obtain ⟨P, hP⟩ : ∃ P, val ((dgs 7 (vlq z)).take j) = P := ⟨_, rfl⟩
      have hPl : P < 32 ^ j := by rw [← hP]; have := val_lt ((dgs 7 (vlq z)).take j); rwa [List.length_take, Nat.min_eq_left (by unfold enc at hj; simp at hj; omega)] at this
      rw [hP]
      have HNW : Hid (bits .or .i64 (P : Int) (wrap64 ((d : Int) % 32 * 2 ^ (5 * j))) = ((val ((dgs 7 (vlq z)).take (j + 1)) : Nat) : Int)) := Lib.hid (new_part P d j _ hPl (by omega) (by
        rw [htk, val_snoc, hP, List.length_take, Nat.min_eq_left (by unfold enc at hj; simp at hj; omega)]))
      have ha31 := and31 d (by omega)
      have ha32 := and32_i d hd
      have hb64 := b64_lt d hd
      obtain ⟨cb, hcb⟩ : ∃ cb, b64at d = cb := ⟨_, rfl⟩
      rw [hcb] at hc hb64
      have HCB := Lib.hid (And.intro hd hcb)
      clear hP hdj hnd htk hcb hPl
      obtain ⟨pj, hpj2⟩ : ∃ pj, p + j = pj := ⟨_, rfl⟩
      rw [hpj2] at hc hpj ⊢
      have HPJ := Lib.hid hpj2
      clear hpj2
      have hj5 : (j : Int) ≤ 6 := by omega
      have kd : decide ((d : Int) < 0) = false := by simp
      have i0 : (0 : Int) ≤ (pj : Int) := by omega
      have i1 : (pj : Int) < (n : Int) := by omega
      rcases (show d < 32 ∨ 32 ≤ d by omega) with hdd | hdd
      · rw [if_neg (by omega)] at ha32
        have hje : j + 1 = (enc z).length := by
          rcases Nat.lt_or_ge (j + 1) (enc z).length with h | h
          · have := hco.2 h; omega
          · omega
        have HJ : Hid (val ((dgs 7 (vlq z)).take (j + 1)) = vlq z ∧ (pj + 1 = p + (enc z).length)) := Lib.hid ⟨by
          have hl : (enc z).length = (dgs 7 (vlq z)).length := by unfold enc; simp
          rw [List.take_of_length_le (by omega), dgs_val 7 _ (by have := vlq_lt z HI.out.2.2.1; omega)], by have := HPJ.out; omega⟩
        clear hco
        go_wp2
        go_quiet ((go_at_call 32; exact Calls.quiet_of_same (idx_any _ _ _ d cb _ HCB.out.1 HCB.out.2 HTW.out)))
        clear hc t0
        go_wp2_with fail
        go_meet
        exact ⟨_, by rw [← HJ.out.2]; go_num, by rw [HNW.out, HJ.out.1], by rw [HWX.out]; simp; rfl⟩
      · rw [if_pos hdd] at ha32
        have hje := hco.1 hdd
        obtain ⟨k', hk1, hk2⟩ : ∃ k', k' + 1 ≤ (enc z).length - j ∧ (enc z).length - (j + 1) ≤ k' := ⟨(enc z).length - (j + 1), by omega, Nat.le_refl _⟩
        clear hco
        go_wp2
        go_quiet ((go_at_call 32; exact Calls.quiet_of_same (idx_any _ _ _ d cb _ HCB.out.1 HCB.out.2 HTW.out)))
        clear hc t0
        go_wp2_with fail
        go_roundg k'
        case measure => exact Nat.lt_of_lt_of_le (Nat.lt_of_succ_le hk1) hjk
        case rel => exact ⟨j + 1, _, hje, hk2, by rw [← HPJ.out]; go_num, by go_num, by rw [HNW.out], by rw [HWX.out]; simp; rfl⟩
  case rest =>
    obtain ⟨mm, rfl, rfl, hwx⟩ := hcut
    have hwx1 := hwx
    subst hwx1
    clear hwx
    obtain ⟨V, hV⟩ : ∃ V, vlq z = V := ⟨_, rfl⟩
    have hVb := vlq_lt z HI.out.2.2.1
    have hvb := vlq_back z
    rw [hV] at hVb hvb ⊢
    have hand := and_one V hVb
    have HV := Lib.hid hvb
    clear hV hvb
    obtain ⟨pe, hpe3⟩ : ∃ pe, p + (enc z).length = pe := ⟨_, rfl⟩
    rw [hpe3]
    have HPE := Lib.hid hpe3
    clear hpe3
    rcases (show V % 2 = 0 ∨ V % 2 = 1 by omega) with hm | hm
    · have hzv : z = (V : Int) / 2 := by have := HV.out.1; have := HV.out.2 hm; omega
      rw [hm] at hand
      have HZV := Lib.hid hzv
      clear hzv hm
      go_wp2_with fail
      go_ret2
      exact ⟨by rw [HPE.out, HZV.out]; rfl, _, rfl⟩
    · have hzv : z = -((V : Int) / 2) := by have := HV.out.1 hm; omega
      rw [hm] at hand
      have HZV := Lib.hid hzv
      clear hzv hm
      go_wp2_with fail
      go_ret2
      exact ⟨by rw [HPE.out, HZV.out]; rfl, _, rfl⟩
/-- while zzEncodeB3 writes: ds written, u to come -/
def GE (B : Nat) (v : Value) (xs : List Int) (V : Nat) (w : World) (k : Nat) (vv y : Value) (wr : World) : Prop :=
  ∃ (ds : List Nat) (u : Nat), y = .int .i64 u ∧ 7 - ds.length ≤ k ∧ ds.length ≤ 6 ∧ u < 32 ^ (7 - ds.length) ∧ ds ++ dgs (7 - ds.length) u = dgs 7 V ∧ Own .u8 5 wr B vv (xs ++ ds.map fun d => ((b64at d : Nat) : Int)) ∧ Gr w v wr vv ∧ B ≤ wr.heap.size
theorem vlq_pos (z : Int) : z < 0 ∨ (0 ≤ z ∧ z * 2 = (vlq z : Int)) := by
  rcases (show z < 0 ∨ 0 ≤ z by omega) with h | h
  · exact .inl h
  · refine .inr ⟨h, ?_⟩; unfold vlq; rw [if_neg (by omega)]; omega
theorem vlq_neg (z : Int) (h : z < 0) : -z * 2 + 1 = (vlq z : Int) := by unfold vlq; rw [if_pos h]; omega
theorem ze_fin (B : Nat) (v : Value) (xs : List Int) (z : Int) (w : World) (vv v' : Value) (wr w' : World) (ds : List Nat) (u : Nat) (hd : ds.length ≤ 6) (hu : u < 32) (h : ds ++ dgs (7 - ds.length) u = dgs 7 (vlq z)) (hg : Gr w v wr vv) (ho : Own .u8 5 w' B v' ((xs ++ ds.map fun d => ((b64at d : Nat) : Int)) ++ [((b64at u : Nat) : Int)])) (hg' : Gr wr vv w' v') (hn : v' ≠ .slice none 0 0) : IsEnc B v xs z w (.returned v') w' := by
  refine ⟨v', rfl, ?_, hg.trans hg', hn⟩
  obtain ⟨m, hm⟩ : ∃ m, 7 - ds.length = m + 1 := ⟨6 - ds.length, by omega⟩
  have : enc z = (ds.map fun d => ((b64at d : Nat) : Int)) ++ [((b64at u : Nat) : Int)] := by
    unfold enc; rw [← h, hm, dgs, if_pos hu]; simp
  rw [this, ← List.append_assoc]; exact ho
theorem ze_step (B : Nat) (v : Value) (xs : List Int) (V : Nat) (w : World) (vv v' : Value) (wr w' : World) (ds : List Nat) (u : Nat) (hd : ds.length ≤ 6) (hu : 32 ≤ u) (hub : u < 32 ^ (7 - ds.length)) (h : ds ++ dgs (7 - ds.length) u = dgs 7 V) (hg : Gr w v wr vv) (hB : B ≤ wr.heap.size) (ho : Own .u8 5 w' B v' ((xs ++ ds.map fun d => ((b64at d : Nat) : Int)) ++ [((b64at (u % 32 + 32) : Nat) : Int)])) (hg' : Gr wr vv w' v') : GE B v xs V w (7 - (ds.length + 1)) v' (.int .i64 (u / 32 : Nat)) w' := by
  have hd5 : ds.length ≤ 5 := by
    rcases Nat.lt_or_ge ds.length 6 with h6 | h6
    · omega
    · have : 7 - ds.length = 1 := by omega
      rw [this] at hub; omega
  refine ⟨ds ++ [u % 32 + 32], u / 32, rfl, by simp, by simp; omega, ?_, ?_, ?_, hg.trans hg', Nat.le_trans hB hg'.1.size⟩
  · obtain ⟨m, hm⟩ : ∃ m, 7 - ds.length = m + 1 := ⟨6 - ds.length, by omega⟩
    rw [List.length_append, List.length_singleton, show 7 - (ds.length + 1) = m by omega]
    rw [hm, Nat.pow_succ] at hub
    omega
  · obtain ⟨m, hm⟩ : ∃ m, 7 - ds.length = m + 1 := ⟨6 - ds.length, by omega⟩
    rw [List.length_append, List.length_singleton, show 7 - (ds.length + 1) = m by omega, List.append_assoc, ← h, hm, dgs, if_neg (by omega)]; rfl
  · rw [List.map_append, ← List.append_assoc]; exact ho
set_option maxRecDepth 100000 in
set_option maxHeartbeats 4000000 in
theorem ze_any (B : Nat) (v : Value) (xs : List Int) (z : Int) (w : World) (hB : B ≤ w.heap.size) (hown : Own .u8 5 w B v xs) (hz : Bnd z) (hl : xs.length ≤ 1073741824) :
    Calls Tryd.prog 17 #[v, .int .i64 z] w (IsEnc B v xs z w) := by
  have HS : Hid (∀ V, V = vlq z → GE B v xs V w 7 v (.int .i64 V) w) := Lib.hid (fun V hV => by
    subst hV
    have := vlq_lt z hz
    exact ⟨[], vlq z, rfl, Nat.le_refl _, Nat.zero_le _, by simp; omega, rfl, by simpa using hown, Gr.refl _ _, hB⟩)
  have hp := vlq_pos z
  have hq := vlq_neg z
  have hVb := vlq_lt z hz
  clear hown
  obtain ⟨V, hV⟩ : ∃ V, vlq z = V := ⟨_, rfl⟩
  rw [hV] at hp hq hVb
  have HV := Lib.hid hV
  clear hV
  obtain ⟨hz0, hz1⟩ := hz
  have hcase : (z < 0 ∧ -z * 2 + 1 = (V : Int)) ∨ (0 ≤ z ∧ z * 2 = (V : Int)) := by
    rcases hp with h | h
    · exact .inl ⟨h, hq h⟩
    · exact .inr h
  clear hp hq
  go_enter Tryd.func17, Tryd.ntmps17
  go_upto_if 10 with fail
  go_cut [5] (fun x wx => x = .int .i64 V ∧ wx = w)
  case first =>
    rcases hcase with ⟨h1, h2⟩ | ⟨h1, h2⟩
    · go_wp2_with fail
      go_meet
      exact ⟨by rw [← h2], rfl⟩
    · go_wp2_with fail
      go_meet
      exact ⟨by rw [← h2], rfl⟩
  case rest =>
    obtain ⟨rfl, hwc⟩ := hcut
    subst hwc
    clear hcase
    go_wp2_with fail
    go_loopg [0, 5] 7 (fun k a b wr => GE B v xs V wc k a b wr)
    case atStart => exact HS.out V HV.out.symm
    case round =>
      obtain ⟨ds, u, rfl, hk, hd, hub, hdg, ho, hg, hBw⟩ := hrel
      have hu35 : u < 34359738368 := by
        have h1 : (32 : Nat) ^ (7 - ds.length) ≤ 32 ^ 7 := Nat.pow_le_pow_right (by decide) (by omega)
        have h3 : (32 : Nat) ^ 7 = 34359738368 := by decide
        omega
      obtain ⟨ys, hys⟩ : ∃ ys, xs ++ ds.map (fun d => ((b64at d : Nat) : Int)) = ys := ⟨_, rfl⟩
      have hyl : ys.length ≤ 1073741830 := by rw [← hys]; simp; omega
      have HE := Lib.hid (And.intro hub (And.intro hdg (And.intro hg (And.intro hd hk))))
      rw [hys] at ho
      have HO := Lib.hid ho
      have HY := Lib.hid hys
      have hHV := HV.out
      clear hub hdg hg ho hys hk
      have HBD : Hid (ys.length + 1 ≤ maxLen ∧ (ys.length + 1) * 1 ≤ 140737488355328) := Lib.hid (by unfold maxLen; omega)
      rcases (show u < 32 ∨ 32 ≤ u by omega) with hu | hu
      · have hm : u % 32 = u := Nat.mod_eq_of_lt hu
        have e1 : (u : Int) % 32 = (u : Int) := by omega
        have e2 : (u : Int) / 32 = 0 := by omega
        go_wp2_with (first
          | (go_at_call 29; refine (digit_any u _ (by omega)).mono ?_; rintro e w' ⟨rfl, rfl⟩)
          | (at_builtin; refine wpList_push wr rfl (.tmp 21) (.tmp 24) 22 rfl B 5 .u8 1 Tryd.underlying22 copyB_info u0 ys _ rfl HO.out rfl HBD.out.1 HBD.out.2 hBw ?_; intro v' w1 ho1 hg1 hn1; have H1 := Lib.hid (And.intro ho1 (And.intro hg1 hn1)); clear ho1 hg1 hn1))
        go_ret
        obtain ⟨ho1, hg1, hn1⟩ := H1.out
        rw [← HY.out] at ho1
        exact ze_fin B v xs z wc u0 _ wr _ ds u HE.out.2.2.2.1 hu (by rw [HV.out]; exact HE.out.2.1) HE.out.2.2.1 ho1 hg1 hn1
      · obtain ⟨q, hq⟩ : ∃ q, u / 32 = q := ⟨_, rfl⟩
        obtain ⟨d0, hd0⟩ : ∃ d0, u % 32 = d0 := ⟨_, rfl⟩
        obtain ⟨dd, hdd⟩ : ∃ dd, d0 + 32 = dd := ⟨_, rfl⟩
        have e1 : (u : Int) % 32 = (d0 : Int) := by omega
        have e2 : (u : Int) / 32 = (q : Int) := by omega
        have e3 : (d0 : Int) + 32 = (dd : Int) := by omega
        have hq0 : ((q : Int) == 0) = false := beq_eq_false_iff_ne.2 (by omega)
        have hdb : dd < 64 := by omega
        have HQ : Hid (u / 32 = q ∧ u % 32 + 32 = dd) := Lib.hid ⟨hq, by omega⟩
        clear hq hd0 hdd
        go_wp2_with (first
          | (go_at_call 29; refine (digit_any dd _ hdb).mono ?_; rintro e w' ⟨rfl, rfl⟩)
          | (at_builtin; refine wpList_push wr rfl (.tmp 26) (.tmp 30) 22 rfl B 5 .u8 1 Tryd.underlying22 copyB_info u0 ys _ rfl HO.out rfl HBD.out.1 HBD.out.2 hBw ?_; intro v' w1 ho1 hg1 hn1; have H1 := Lib.hid (And.intro ho1 (And.intro hg1 hn1)); clear ho1 hg1 hn1))
        go_roundg (7 - (ds.length + 1))
        case measure => have := HE.out.2.2.2.2; omega
        case rel =>
          obtain ⟨ho1, hg1, hn1⟩ := H1.out
          rw [← HY.out, ← HQ.out.2] at ho1
          rw [← HQ.out.1]
          exact ze_step B v xs V wc u0 _ wr _ ds u HE.out.2.2.2.1 hu HE.out.1 HE.out.2.1 HE.out.2.2.1 hBw ho1 hg1
def GZ (p : Nat) (z : Int) (w : World) (k : Nat) (v7 : Value) (wr : World) : Prop := ∃ j : Nat, j < (enc z).length ∧ (enc z).length - j ≤ k ∧ v7 = .int .i64 (p + j : Nat) ∧ wr = w
def IsZd (p : Nat) (z : Int) (w : World) (e : Ending) (w' : World) : Prop := e = .returned (.tuple #[.int .i64 z, .int .i64 (p + (enc z).length : Nat), .bool true]) ∧ ∃ m, w' = w.drewN m
set_option maxRecDepth 100000 in
set_option maxHeartbeats 4000000 in
theorem zd_any (ao : Option Addr) (cap n : Nat) (zs : List Int) (p : Nat) (z : Int) (w : World) (hn : zs.length = n) (hin : In .u8 w ao zs) (hl : n ≤ 1073741824) (hz : Bnd z) (hs : NumAt zs p z) (B : Nat) (ht : Tab w B) :
    Calls Tryd.prog 28 #[.slice ao n cap, .int .i64 p] w (IsZd p z w) := by
  have HI := Lib.hid (And.intro hin (And.intro hn (And.intro hz hs)))
  have HD := Lib.hid (dv_any ao cap n zs p z w hn hin hl hz hs B ht)
  clear hin hn hz hs ht
  have hel := (enc_len z).2
  have hel1 := (enc_len z).1
  have hpl : p + 1 ≤ n := by have := (HI.out.2.2.2 0 (by omega)).1; have := HI.out.2.1; omega
  have hp0 : decide (n ≤ p) = false := decide_eq_false (by omega)
  go_enter Tryd.func28, Tryd.ntmps28
  go_upto_block 0 with fail
  go_cut [7] (fun x wx => wx = w)
  case first =>
    go_wp2_with fail
    go_loopg [7] ((enc z).length) (fun k a wx => GZ p z w k a wx)
    case atStart => exact ⟨0, by omega, Nat.le_refl _, rfl, rfl⟩
    case round =>
      obtain ⟨j, hj, hjk, rfl, hwx⟩ := hrel
      subst hwx
      obtain ⟨d, hd, hdj, hnd, htk⟩ := enc_nth z j hj
      have hco := enc_cont z HI.out.2.2.1 j d hj hdj
      obtain ⟨q, off, hx, hq, hc⟩ := HI.out.1.at (i := p + j) (HI.out.2.2.2 j hj).1
      subst hx
      rw [(HI.out.2.2.2 j hj).2, hnd] at hc
      have hpj : p + j < n := by have := (HI.out.2.2.2 j hj).1; have := HI.out.2.1; omega
      have ha32 := and32_i d hd
      have hbb := bi_b64 d hd
      have hb64 := b64_lt d hd
      obtain ⟨cb, hcb⟩ : ∃ cb, b64at d = cb := ⟨_, rfl⟩
      rw [hcb] at hc hb64 hbb
      have HBI := Lib.hid hbb
      clear hdj hnd htk hcb hbb
      obtain ⟨pj, hpj2⟩ : ∃ pj, p + j = pj := ⟨_, rfl⟩
      rw [hpj2] at hc hpj ⊢
      have hsub : (pj : Int) - (p : Int) = (j : Int) := by omega
      have HPJ := Lib.hid hpj2
      clear hpj2
      have hj7 : decide ((7 : Int) ≤ (j : Int)) = false := decide_eq_false (by omega)
      have hnp : decide (n ≤ pj) = false := decide_eq_false (by omega)
      rcases (show d < 32 ∨ 32 ≤ d by omega) with hdd | hdd
      · rw [if_neg (by omega)] at ha32
        clear hco
        go_wp2_with (go_at_call 34; refine (bi_any (cb : Int) _ (by omega) (by omega)).mono ?_; rintro e w' ⟨rfl, rfl⟩; rw [HBI.out])
        go_meet
        rfl
      · rw [if_pos hdd] at ha32
        have hje := hco.1 hdd
        obtain ⟨k', hk1, hk2⟩ : ∃ k', k' + 1 ≤ (enc z).length - j ∧ (enc z).length - (j + 1) ≤ k' := ⟨(enc z).length - (j + 1), by omega, Nat.le_refl _⟩
        clear hco
        go_wp2_with (go_at_call 34; refine (bi_any (cb : Int) _ (by omega) (by omega)).mono ?_; rintro e w' ⟨rfl, rfl⟩; rw [HBI.out])
        go_roundg k'
        case measure => exact Nat.lt_of_lt_of_le (Nat.lt_of_succ_le hk1) hjk
        case rel => exact ⟨j + 1, hje, hk2, by rw [← HPJ.out]; go_num, rfl⟩
  case rest =>
    subst hcut
    go_wp2_with (go_at_call 19; refine HD.out.mono ?_; rintro e w' ⟨rfl, m, rfl⟩)
    go_ret3
    exact ⟨rfl, m, rfl⟩
end Go.Proofs.YtoegmcakolidbaaDoor
