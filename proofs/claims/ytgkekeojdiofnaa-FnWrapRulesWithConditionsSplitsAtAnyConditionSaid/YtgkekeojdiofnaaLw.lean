/-
  The law, walked. No statement of the seat is proved here.
-/
import Derived.Test.YtgkekeojdiofnaaBd
import Derived.Test.YtgkekeojdiofnaaZw
namespace Go.Proofs.Ytgkekeojdiofnaa
open Go.RowKit
set_option linter.unusedVariables false
set_option linter.unusedSimpArgs false

theorem OkC.bounds {cs : List Cz} (h : OkC cs) : cs.length ≤ 4096 ∧ (∀ i, i < cs.length → (cz cs i).ls.length ≤ maxLen) ∧ ∀ i, i < cs.length → (cz cs i).sn.toNat ≤ maxLen :=
  ⟨h.1, fun i hi => by have := (h.2 i hi).1; unfold maxLen; omega, fun i hi => by have := (h.2 i hi).2.2; unfold maxLen; omega⟩
theorem OkC.take {cs : List Cz} (h : OkC cs) (k : Nat) : OkC (cs.take k) :=
  ⟨by have := h.1; rw [List.length_take]; omega, fun i hi => by rw [List.length_take] at hi; rw [cz_take cs k i (by omega)]; exact h.2 i (by omega)⟩
theorem OkC.drop {cs : List Cz} (h : OkC cs) (k : Nat) : OkC (cs.drop k) :=
  ⟨by have := h.1; rw [List.length_drop]; omega, fun i hi => by rw [List.length_drop] at hi; rw [cz_drop cs k i]; exact h.2 (k + i) (by omega)⟩
theorem conds_len (B : Nat) : ∀ (l : List Cd) (s : Ns), (∀ c ∈ l, wt c ≤ B) → (conds l s).ch.length ≤ s.ch.length + l.length * B
  | [], s, _ => by simp [conds]
  | c :: r, s, h => by
    have h1 := conds_len B r s (fun x hx => h x (List.mem_cons_of_mem _ hx))
    have h2 := h c (List.mem_cons_self ..)
    unfold wt at h2
    have h3 := layers_len c.ls (conds r s)
    have e : conds (c :: r) s = cond c (conds r s) := rfl
    rw [e, List.length_cons, Nat.succ_mul]
    unfold cond
    simp only
    split
    · omega
    · rw [sups_len]; omega
theorem cds_len {cs : List Cz} (h : OkC cs) (s : Ns) (hs : s.ch = []) : (conds (cds cs) s).ch.length ≤ 1099511627776 := by
  have h1 := conds_len 131072 (cds cs) s (fun c hc => by
    obtain ⟨z, hz, rfl⟩ := List.mem_map.1 hc
    obtain ⟨i, hi, rfl⟩ := List.getElem_of_mem hz
    have := h.2 i hi
    rw [show cz cs i = cs[i] by simp [cz, hi]] at this
    unfold wt cd
    simp only
    omega)
  have h2 := h.1
  rw [hs] at h1
  have h3 : (cds cs).length = cs.length := by simp [cds]
  have h4 : cs.length * 131072 ≤ 4096 * 131072 := Nat.mul_le_mul_right _ h2
  rw [h3] at h1
  simp only [List.length_nil] at h1
  omega
theorem cds_take (cs : List Cz) (k : Nat) : cds (cs.take k) = (cds cs).take k := by simp [cds, List.map_take]
theorem cds_drop (cs : List Cz) (k : Nat) : cds (cs.drop k) = (cds cs).drop k := by simp [cds, List.map_drop]
theorem add_plain (b o k : Nat) : (⟨b, o, none⟩ : Addr).add k = ⟨b, o + k, none⟩ := by unfold Addr.add; split <;> simp_all
theorem size37 (w : World) : (sizeOf (Try.prog.elem 22)).run Try.prog w = .ok 2 w := by kernel_rfl
theorem elem22 : Try.prog.elem 22 = 37 := by kernel_rfl
theorem und22 : Try.prog.underlying 22 = some (.slice (Try.prog.elem 22)) := by rw [elem22]; exact Try.underlying22
/-- conds[k:] -/
theorem sl_from (ao : Option Addr) (n cap k : Nat) (hk : k ≤ n) : ∃ X, (∀ w : World, (Instr.sliceAt 22 (.slice ao n cap) (some (.int .i64 (k : Int))) none none).run Try.prog w = .ok (.slice X (n - k) (cap - k)) w) ∧ (X = ao ∧ k = cap ∨ X = ao.map (·.add (k * 2))) := by
  refine ⟨if cap = k then ao else ao.map (·.add (k * 2)), fun w => ?_, ?_⟩
  · rw [run_sliceAt_slice w 22 _ _ _ _ und22, run_slice_l w 22 ao n cap und22 .i64 (k : Int) (by omega) (by omega), size37]
    simp [Result.andThen, sliced]
  · by_cases h : cap = k
    · rw [if_pos h]; exact .inl ⟨rfl, h.symm⟩
    · rw [if_neg h]; exact .inr rfl
/-- conds[:k] -/
theorem sl_to (ao : Option Addr) (n cap k : Nat) (hk : k ≤ cap) : ∃ X, (∀ w : World, (Instr.sliceAt 22 (.slice ao n cap) none (some (.int .i64 (k : Int))) none).run Try.prog w = .ok (.slice X k cap) w) ∧ (X = ao ∨ X = ao.map (·.add (0 * 2))) := by
  refine ⟨if cap = 0 then ao else ao.map (·.add (0 * 2)), fun w => ?_, ?_⟩
  · rw [run_sliceAt_slice w 22 _ _ _ _ und22, run_slice_h w 22 ao n cap und22 .i64 (k : Int) (by omega) (by omega), size37]
    simp [Result.andThen, sliced]
  · by_cases h : cap = 0
    · rw [if_pos h]; exact .inl rfl
    · rw [if_neg h]; exact .inr rfl
theorem gb_und {a b : World} {r : Option Nat} (h : a.drew.grownBy b r) : a.grownBy b r := ⟨h.os, h.tape, h.output, h.size, h.block⟩
/-- the number of rules on top -/
def tl (s : Ns) : Nat := if s.ch = [] then s.m else 1
theorem NS.top {w : World} {s : Ns} {v : Value} (h : NS w s v) : ∃ a c, v = .slice a (tl s) c := by
  obtain ⟨ch, m⟩ := s
  cases ch with
  | nil =>
    obtain ⟨ao, cap, h1, _⟩ := h
    exact ⟨ao, cap, by simpa [tl] using h1⟩
  | cons t r =>
    obtain ⟨b, p, cs, iv, h1, _⟩ := h
    exact ⟨_, _, by simpa [tl] using h1⟩
set_option maxHeartbeats 8000000 in
set_option maxRecDepth 100000 in
theorem law_any (ao : Option Addr) (n cap : Nat) (cs : List Cz) (nr kk : Int) (w : World) (hc : IsC w ao n cap cs) :
    Calls Try.prog 3 #[.int .i64 nr, .slice ao n cap, .int .i64 kk] w fun e w' => e = .returned (.bool true) ∧ Below w.heap.size w w' := by
  obtain ⟨hn, hin, hnm, hlm, hnil⟩ := hc
  have HZB := Lib.hid (zb_any ao n cap cs nr kk w hin hn)
  have HI := Lib.hid (And.intro hin (And.intro hn hnil))
  clear hin hn hnil hlm
  go_enter Try.func3, Try.ntmps3
  go_upto_if 22 with (go_at_call 4; refine HZB.out.mono ?_; rintro e w2 ⟨⟨bb, rfl⟩, rfl⟩)
  cases bb
  · go_wp2_with fail
    go_ret
    exact ⟨rfl, Below.refl _ _⟩
  have HSZ := Lib.hid (sz_any ao n cap cs nr HI.out.2.1 w2 HI.out.1)
  go_upto_if 26 with (go_at_call 5; refine HSZ.out.mono ?_; rintro e w3 ⟨⟨bb, rfl, hb⟩, hbl⟩; have HC := Lib.hid (And.intro hb hbl); clear hb hbl)
  cases bb
  · go_wp2_with fail
    go_ret
    exact ⟨rfl, HC.out.2⟩
  have HOK : Hid (OkC cs ∧ 0 ≤ nr ∧ nr ≤ 65536) := Lib.hid (by obtain ⟨h1, h2, h3⟩ := HC.out.1 rfl; exact ⟨h3, h1, h2⟩)
  have hn4 : n ≤ 4096 := by rw [← HI.out.2.1]; exact HOK.out.1.1
  obtain ⟨m, rfl⟩ : ∃ m : Nat, nr = (m : Int) := ⟨nr.toNat, by have := HOK.out.2.1; omega⟩
  have hm6 : m ≤ 65536 := by have := HOK.out.2.2; omega
  by_cases k0 : kk < 0
  · have d : decide (kk < 0) = true := by simp [k0]
    go_wp2_with fail
    go_ret
    exact ⟨rfl, HC.out.2⟩
  have d0 : decide (kk < 0) = false := by simp; omega
  by_cases k1 : (n : Int) < kk
  · have d : decide ((n : Int) < kk) = true := by simp [k1]
    go_wp2_with fail
    go_ret
    exact ⟨rfl, HC.out.2⟩
  have d1 : decide ((n : Int) < kk) = false := by simp; omega
  go_upto_region 7 with fail
  obtain ⟨k, rfl⟩ : ∃ k : Nat, kk = (k : Int) := ⟨kk.toNat, by omega⟩
  have hkn : k ≤ n := by omega
  clear d0 d1 k0 k1 HZB HSZ
  have HCL := Lib.hid (cl_any ao n cap cs HI.out.2.1 HOK.out.1 HI.out.2.2 w3 (HI.out.1.kept HC.out.2))
  go_upto_region 8 with (go_at_call 6; refine HCL.out.mono ?_; rintro e w4 ⟨ao', cap', rfl, hsh, hg⟩; have H4 := Lib.hid (And.intro hsh hg); clear hsh hg)
  clear HCL
  have HN := Lib.hid HI.out.2.1
  have HB4 : Hid (Below w2.heap.size w2 w4 ∧ w2.heap.size ≤ w4.heap.size) := Lib.hid (by
    have h := HC.out.2.trans ((below_of H4.out.2).mono HC.out.2.size)
    exact ⟨h, h.size⟩)
  have HCS : Hid (∀ wx : World, w4.grownBy wx none → Cs wx ao' cs) := Lib.hid (fun wx hg => by
    rcases H4.out.1 with ⟨h1, h2, _⟩ | ⟨_, A, rfl, h3⟩
    · have h0 : cs = [] := List.eq_nil_of_length_eq_zero (by rw [HN.out]; exact h2)
      exact .inl h0
    · exact h3.kept (below_of hg))
  have HWR := Lib.hid (fun w => wr_any m hm6 w)
  have HBD := Lib.hid (fun w hin => bd_any ao' n cap' cs HN.out HOK.out.1 w hin)
  go_wp2_with (first
    | (go_at_call 8; refine (HWR.out _).mono ?_; rintro e w5 ⟨v5, rfl, hn5, hg5⟩; have H5 := Lib.hid (And.intro hn5 hg5); clear hn5 hg5)
    | (go_at_call 9; refine (HBD.out _ (HCS.out _ H5.out.2)).mono ?_; rintro e w6 ⟨B6, rfl, hi6, hg6⟩; have H6 := Lib.hid (And.intro hi6 hg6); clear hi6 hg6)
    | (go_at_call 7; refine (zw_any ⟨[], m⟩ v5 B6 n n cs HN.out hn4 HOK.out.1.bounds.2.1 HOK.out.1.bounds.2.2 _ (NS.grow H5.out.1 H6.out.2) H6.out.1).mono ?_; rintro e w7 ⟨v7, rfl, hn7, hg7⟩; have H7 := Lib.hid (And.intro hn7 (gb_trans (gb_trans H5.out.2 H6.out.2) hg7)); clear hn7 hg7))
  have HG7 : Hid (NS w7 (conds (cds cs) ⟨[], m⟩) v7 ∧ w4.grownBy w7 none) := H7
  clear H5 H6 H7 HBD
  obtain ⟨X1, hs1, hx1⟩ := sl_from ao' n cap' k hkn
  have HX1 : Hid (∀ wx : World, w4.grownBy wx none → Cs wx X1 (cs.drop k)) := Lib.hid (fun wx hg => by
    rcases H4.out.1 with ⟨h1, h2, h3⟩ | ⟨hcap, A, rfl, h3⟩
    · have h0 : cs = [] := List.eq_nil_of_length_eq_zero (by rw [HN.out]; exact h2)
      exact .inl (by rw [h0]; simp)
    · rcases hx1 with ⟨_, hkc⟩ | hxx
      · exact .inl (List.drop_of_length_le (by rw [HN.out]; omega))
      · rw [hxx, Option.map_some, add_plain]
        exact (h3.kept (below_of hg)).drop k)
  have HBD9 := Lib.hid (fun w hin => bd_any X1 (n - k) (cap' - k) (cs.drop k) (by rw [List.length_drop, HN.out]) (HOK.out.1.drop k) w hin)
  have hn9 : (cs.drop k).length = n - k := by rw [List.length_drop, HN.out]
  have HN9 := Lib.hid hn9
  clear hn9 hx1
  have hs1' : ∀ w : World, (Instr.slice 22 (.slice ao' n cap') (some (.int .i64 (k : Int))) none none).run Try.prog w = .ok (.slice X1 (n - k) (cap' - k)) w := fun w => by rw [← run_sliceAt_slice w 22 _ _ _ _ und22]; exact hs1 w
  go_cut [9, 10] (fun x y wc => y = .int .i64 0 ∧ Hid (NS wc (conds (cds (cs.drop k)) ⟨[], m⟩) x ∧ w7.grownBy wc none))
  case first =>
    go_region_with (first
      | (go_at_call 8; refine (HWR.out _).mono ?_; rintro e w5 ⟨v5, rfl, hn5, hg5⟩; have H5 := Lib.hid (And.intro hn5 (gb_und hg5)); clear hn5 hg5)
      | (go_at_call 9; refine (HBD9.out _ (HX1.out _ (gb_trans HG7.out.2 H5.out.2))).mono ?_; rintro e w6 ⟨B6, rfl, hi6, hg6⟩; have H6 := Lib.hid (And.intro hi6 hg6); clear hi6 hg6)
      | (go_at_call 7; refine (zw_any ⟨[], m⟩ v5 B6 (n - k) (n - k) (cs.drop k) HN9.out (by omega) (HOK.out.1.drop k).bounds.2.1 (HOK.out.1.drop k).bounds.2.2 _ (NS.grow H5.out.1 H6.out.2) H6.out.1).mono ?_; rintro e w8 ⟨v8, rfl, hn8, hg8⟩; have H8 := Lib.hid (And.intro hn8 (gb_trans (gb_trans H5.out.2 H6.out.2) hg8)); clear hn8 hg8))
    all_goals
      go_wp2_with fail
      go_meet
      exact ⟨rfl, H8.out⟩
  case rest =>
    obtain ⟨rfl, H9⟩ := hcut
    obtain ⟨w9, rfl⟩ : ∃ w9 : World, w9 = wc := ⟨_, rfl⟩
    clear hs1 hs1' HBD9 HX1 HN9
    have hck : k ≤ cap' := by
      rcases H4.out.1 with ⟨h1, h2, h3⟩ | ⟨hcap, _⟩
      · omega
      · omega
    obtain ⟨X2, hs2, hx2⟩ := sl_to ao' n cap' k hck
    have HX2 : Hid (∀ wx : World, w4.grownBy wx none → Cs wx X2 (cs.take k)) := Lib.hid (fun wx hg => by
      rcases H4.out.1 with ⟨h1, h2, h3⟩ | ⟨hcap, A, rfl, h3⟩
      · have h0 : cs = [] := List.eq_nil_of_length_eq_zero (by rw [HN.out]; exact h2)
        exact .inl (by rw [h0]; simp)
      · have hxx : X2 = some ⟨A, 0, none⟩ := by
          rcases hx2 with h | h
          · exact h
          · rw [h, Option.map_some, add_plain]
        rw [hxx]
        exact (h3.kept (below_of hg)).take k)
    have hn2 : (cs.take k).length = k := by rw [List.length_take, HN.out]; omega
    have HN2 := Lib.hid hn2
    have HBD2 := Lib.hid (fun w hin => bd_any X2 k cap' (cs.take k) HN2.out (HOK.out.1.take k) w hin)
    clear hn2 hx2 hck
    have hs2' : ∀ w : World, (Instr.slice 22 (.slice ao' n cap') none (some (.int .i64 (k : Int))) none).run Try.prog w = .ok (.slice X2 k cap') w := fun w => by rw [← run_sliceAt_slice w 22 _ _ _ _ und22]; exact hs2 w
    have HS : Hid (conds (cds (cs.take k)) (conds (cds (cs.drop k)) ⟨[], m⟩) = conds (cds cs) ⟨[], m⟩) := Lib.hid (by rw [cds_take, cds_drop, ← conds_split])
    obtain ⟨v9, rfl⟩ : ∃ v9 : Value, v9 = u9 := ⟨_, rfl⟩
    go_upto_region 11 with (first
      | (go_at_call 9; refine (HBD2.out _ (HX2.out _ (gb_trans HG7.out.2 H9.out.2))).mono ?_; rintro e w6 ⟨B6, rfl, hi6, hg6⟩; have H6 := Lib.hid (And.intro hi6 hg6); clear hi6 hg6)
      | (go_at_call 7; refine (zw_any (conds (cds (cs.drop k)) ⟨[], m⟩) v9 B6 k k (cs.take k) HN2.out (by omega) (HOK.out.1.take k).bounds.2.1 (HOK.out.1.take k).bounds.2.2 _ (NS.grow H9.out.1 H6.out.2) H6.out.1).mono ?_; rintro e w8 ⟨v8, rfl, hn8, hg8⟩; have H8 := Lib.hid (And.intro hn8 (gb_trans (gb_trans H9.out.2 H6.out.2) hg8)); clear hn8 hg8))
    obtain ⟨S, hS⟩ : ∃ S, conds (cds cs) ⟨[], m⟩ = S := ⟨_, rfl⟩
    have HSL : Hid (S.ch.length ≤ 1099511627776) := Lib.hid (by rw [← hS]; exact cds_len HOK.out.1 _ rfl)
    have HE : Hid (NS w8 S v7 ∧ NS w8 S v8 ∧ Below w2.heap.size w2 w8) := Lib.hid (by
      have h8 := H8.out.1
      rw [HS.out, hS] at h8
      have h7 := HG7.out.1
      rw [hS] at h7
      exact ⟨h7.grow H8.out.2, h8, HB4.out.1.trans ((below_of (gb_trans HG7.out.2 H8.out.2)).mono HB4.out.2)⟩)
    clear HS hS H8 H6 H9 HG7 HBD2 HX2 hs2 hs2' HN2 HCS HWR
    obtain ⟨a7, c7, rfl⟩ := HE.out.1.top
    obtain ⟨a8, c8, rfl⟩ := HE.out.2.1.top
    go_upto_region 13 with fail
    have HC7 := Lib.hid (wc_any S.ch S.m (.slice a7 (tl S) c7) HSL.out w8 HE.out.1)
    have HC8 := Lib.hid (fun (w' : World) (hb : Below w8.heap.size w8 w') => wc_any S.ch S.m (.slice a8 (tl S) c8) HSL.out w' (NS.below hb HE.out.2.1))
    obtain ⟨N, hN⟩ : ∃ N, S.ch.length = N := ⟨_, rfl⟩
    obtain ⟨M, hM⟩ : ∃ M, S.m = M := ⟨_, rfl⟩
    obtain ⟨ts, hts⟩ : ∃ ts, S.ch.map nm = ts := ⟨_, rfl⟩
    have HNL : Hid (ts.length = N ∧ N ≤ 1099511627776) := Lib.hid ⟨by rw [← hts, ← hN]; simp, by rw [← hN]; exact HSL.out⟩
    rw [hN, hM, hts] at HC7
    simp only [hN, hM, hts] at HC8
    clear hN hM hts
    go_upto_region 14 with (go_at_call 10; refine (HC7.out).mono ?_; rintro e w10 ⟨x7, y7, rfl, ho7, hb7⟩; have H7 := Lib.hid (And.intro ho7 hb7); clear ho7 hb7)
    go_upto_region 15 with (go_at_call 10; refine (HC8.out _ H7.out.2).mono ?_; rintro e w11 ⟨x8, y8, rfl, ho8, hb8⟩; have H8 := Lib.hid (And.intro ho8 hb8); clear ho8 hb8)
    have HO : Hid (OwnT 9 w11 w8.heap.size (.slice x7 N y7) ts ∧ OwnT 9 w11 w10.heap.size (.slice x8 N y8) ts ∧ Below w2.heap.size w2 w11) := Lib.hid ⟨H7.out.1.kept H8.out.2, H8.out.1, (HE.out.2.2.trans (H7.out.2.mono HE.out.2.2.size)).trans (H8.out.2.mono (Nat.le_trans HE.out.2.2.size H7.out.2.size))⟩
    clear H7 H8 HC7 HC8 HE
    go_upto_region 18 with fail
    have hNM : N ≤ 1099511627776 := HNL.out.2
    go_loopg [17] N (fun gg x wx => ∃ j : Nat, x = .int .i64 (j : Int) ∧ j ≤ N ∧ N - j ≤ gg ∧ Hid (OwnT 9 wx w8.heap.size (.slice x7 N y7) ts ∧ OwnT 9 wx w10.heap.size (.slice x8 N y8) ts ∧ Below w2.heap.size w2 wx))
    case atStart => exact ⟨0, rfl, by omega, by omega, HO⟩
    case round =>
      obtain ⟨j, rfl, hj, hjk, HJ⟩ := hrel
      obtain ⟨wy, rfl⟩ : ∃ wy : World, wy = wr := ⟨_, rfl⟩
      rcases (show N = j ∨ j < N by omega) with he | hlt
      · subst he
        go_wp2_with fail
        go_ret
        exact ⟨rfl, HJ.out.2.2⟩
      · obtain ⟨g7, rfl, d7⟩ := HJ.out.1.at (i := j) (by rw [HNL.out.1]; exact hlt)
        obtain ⟨g8, rfl, d8⟩ := HJ.out.2.1.at (i := j) (by rw [HNL.out.1]; exact hlt)
        have l7 := World.block_lt_of_cell? wy _ d7
        have l8 := World.block_lt_of_cell? wy _ d8
        obtain ⟨t, ht⟩ : ∃ t, tth ts j = t := ⟨_, rfl⟩
        rw [ht] at d7 d8
        clear ht
        simp only at l7 l8
        go_upto_region 20 with fail
        go_quiet (fail)
        go_wp2_with fail
        go_roundg (gk - 1)
        case measure => omega
        case rel => exact ⟨j + 1, by go_num, by omega, by omega, Lib.hid ⟨HJ.out.1, HJ.out.2.1, below_drewN HJ.out.2.2 _⟩⟩
end Go.Proofs.Ytgkekeojdiofnaa
