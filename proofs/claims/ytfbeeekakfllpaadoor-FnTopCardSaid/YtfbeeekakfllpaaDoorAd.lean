/-
  (*zzRef).add. No statement of the seat is proved here.
-/
import Derived.Test.YtfbeeekakfllpaaDoorSa
namespace Go.Proofs.YtfbeeekakfllpaaDoor
open Go.RowKit
set_option linter.unusedVariables false
set_option linter.unusedSimpArgs false
theorem str_yes {c s : ByteArray} (h : c = s) : (c.toList == s.toList) = true := by rw [h]; exact beq_self_eq_true _
theorem str_no {c s : ByteArray} (h : c ≠ s) : (c.toList == s.toList) = false := by
  apply beq_eq_false_iff_ne.2
  rw [Lib.toList_data, Lib.toList_data]
  intro e
  exact h (ByteArray.ext (Array.ext' e))
theorem str_no0 {c : ByteArray} (h : c.size ≠ 0) : c.toList.isEmpty = false := by
  rw [Lib.toList_data]
  cases hc : c.data.toList with
  | nil => exact absurd (by have := congrArg List.length hc; simpa using this) h
  | cons x t => rfl
theorem str_yes0 {c : ByteArray} (h : c.size = 0) : c.toList.isEmpty = true := by
  obtain rfl := size0 h
  rw [Lib.toList_data]; rfl
theorem OutV.ch {v : Value} {u : Nat} {T : ByteArray} {w w' : World} {F : Nat → Prop} (h : OutV v u T w) (hc : Ch F w w') (hF : ∀ o, v.ownBlock = some o → ¬ F o) : OutV v u T w' := by
  rcases h with h | ⟨o, cap, h1, h2, h3, h4⟩
  · exact .inl h
  · refine .inr ⟨o, cap, h1, fun i hi => ?_, Nat.lt_of_lt_of_le h3 hc.size, h4⟩
    exact (World.cell?_of_block (w := w) (hc.block o h3 (hF o (by rw [h1]; rfl)))).trans (h2 i hi)
def IsAdd (f B : Nat) (k : Rk) (q' : Pq) (w : World) (ns' : List ByteArray) (off len : Int) (nm : ByteArray) (e : Ending) (w' : World) : Prop := ∃ k' : Rk, e = .returned (.tuple #[]) ∧ Rst w f B k w' k' q' ∧ k'.ns = ns' ∧ k'.ploc = off ∧ k'.plen = len ∧ k'.pname = nm ∧ k'.last = len
def Dup (k : Rk) (off len : Int) (s : ByteArray) : Prop := off = k.ploc ∧ (k.plen = len ∨ k.pname = s)
/-- while add runs: the reference, and the box of the position -/
structure Ax (f B b : Nat) (k : Rk) (w : World) (row : Array Value) (wr : World) (k' : Rk) (q' : Pq) : Prop where
  st : Rst w f B k wr k' q'
  bx : Blk wr b 69 row
  nb : ¬ k'.fp f b
theorem Ax.step {f B b : Nat} {k : Rk} {w : World} {row : Array Value} {wr w' : World} {k1 k2 : Rk} {q1 q2 : Pq} (h : Ax f B b k w row wr k1 q1) (g : Rst wr f B k1 w' k2 q2) : Ax f B b k w row w' k2 q2 :=
  ⟨h.st.trans g, g.ch.blk h.bx h.nb, fun e => by
    rcases g.nw b e with e | e
    · exact h.nb e
    · have := h.bx.lt; omega⟩
theorem Ax.kept {f B b : Nat} {k : Rk} {w : World} {row : Array Value} {wr w' : World} {k1 : Rk} {q1 : Pq} (h : Ax f B b k w row wr k1 q1) (hg : wr.grownBy w' none) : Ax f B b k w row w' k1 q1 := ⟨h.st.kept hg, h.bx.gb hg (by simp), h.nb⟩
def AxP (f B b : Nat) (k : Rk) (w : World) (row : Array Value) (q' : Pq) (ns : List ByteArray) (off len : Int) (s : ByteArray) (wr : World) : Prop := ∃ k', Ax f B b k w row wr k' q' ∧ k'.ns = ns ∧ k'.ploc = off ∧ k'.plen = len ∧ k'.pname = s ∧ k'.last = len
theorem info9 : (Tryd.prog.info? 9).map (fun i => (i.zero, i.size, i.bytes)) = some (some (.string ByteArray.empty), 1, 16) := by kernel_rfl
set_option maxRecDepth 100000 in
set_option maxHeartbeats 4000000 in
theorem add_skip (f B : Nat) (k : Rk) (q : Pq) (ao : Option Addr) (M cap : Nat) (off ol oc : Int) (s : ByteArray) (w : World) (h : Rf w f B k q) (hs : Dup k off M s) :
    Calls Tryd.prog 14 #[.pointer (some ⟨f, 0, none⟩), .slice ao M cap, .agg #[.int .i64 off, .int .i64 ol, .int .i64 oc], .string s] w fun e w' => e = .returned (.tuple #[]) ∧ w.grownBy w' none := by
  have e2 := h.blk.cell 2
  have e3 := h.blk.cell 3
  have e4 := h.blk.cell 4
  have hl := h.blk.lt
  simp only [Rk.cells] at e2 e3 e4
  clear h
  unfold Dup at hs
  obtain ⟨a, ha⟩ : ∃ a, k.ploc = a := ⟨_, rfl⟩
  obtain ⟨b, hb⟩ : ∃ b, k.plen = b := ⟨_, rfl⟩
  obtain ⟨c, hc⟩ : ∃ b, k.pname = b := ⟨_, rfl⟩
  rw [ha] at e2 hs
  rw [hb] at e3 hs
  rw [hc] at e4 hs
  clear ha hb hc
  have d1 : (off == a) = true := beq_iff_eq.2 hs.1
  by_cases hbM : b = (M : Int)
  · have d2 : (b == (M : Int)) = true := beq_iff_eq.2 hbM
    clear hs hbM
    go_enter Tryd.func14, Tryd.ntmps14
    go_wp2
    go_quiet (fail)
    go_wp2
    refine bodyPost_ret (results_none rfl _ _ _) rfl ?_
    exact ⟨rfl, gb_trans (World.grownBy_alloc _ _ _) (gb_drewN _ _)⟩
  · have d2 : (b == (M : Int)) = false := beq_eq_false_iff_ne.2 hbM
    have d3 := str_yes (hs.2.resolve_left hbM)
    clear hs hbM
    go_enter Tryd.func14, Tryd.ntmps14
    go_wp2
    go_quiet (fail)
    go_wp2
    refine bodyPost_ret (results_none rfl _ _ _) rfl ?_
    exact ⟨rfl, gb_trans (World.grownBy_alloc _ _ _) (gb_drewN _ _)⟩
set_option maxRecDepth 100000 in
set_option maxHeartbeats 4000000 in
theorem add_new (f B : Nat) (k : Rk) (q : Pq) (v : Value) (u m : Nat) (T : ByteArray) (off ol oc : Int) (s : ByteArray) (ns' : List ByteArray) (nm : Option Nat) (w : World) (hlu : k.last = (u : Nat)) (h : Rf w f B k q) (hB : B ≤ w.heap.size) (ho : OutV v u T w) (hof : ∀ o, v.ownBlock = some o → ¬ k.fp f o) (hcz : u + T.size ≤ 4194304)
    (hb : Qb q u m) (hm1 : m ≤ 1048576) (hdu : ¬ Dup k off ((u + T.size : Nat) : Int) s) (hnm : Nmd k.ns s ns' nm) (hnk : Nok k.ns m) :
    Calls Tryd.prog 14 #[.pointer (some ⟨f, 0, none⟩), v, .agg #[.int .i64 off, .int .i64 ol, .int .i64 oc], .string s] w (IsAdd f B k ((runQ T q T.size).mapq ol oc nm) w ns' off ((u + T.size : Nat) : Int) s) := by
  obtain ⟨M, hM⟩ : ∃ M, u + T.size = M := ⟨_, rfl⟩
  obtain ⟨ao, cap, hv⟩ : ∃ ao cap, v = .slice ao M cap := by
    rcases ho with ⟨h1, h2, h3⟩ | ⟨o, cap, h1, _⟩
    · exact ⟨none, 0, by rw [h1, ← hM, h2, h3]⟩
    · exact ⟨_, cap, by rw [h1, hM]⟩
  have e2 := h.blk.cell 2
  have e3 := h.blk.cell 3
  have e4 := h.blk.cell 4
  have hfl := h.blk.lt
  simp only [Rk.cells] at e2 e3 e4
  obtain ⟨b, hbb⟩ : ∃ b, w.heap.size = b := ⟨_, rfl⟩
  have hbf : ¬ b = f := by omega
  have hst : Ax f B b k w #[.int .i64 off, .int .i64 ol, .int .i64 oc] (w.alloc (.cells #[.int .i64 off, .int .i64 ol, .int .i64 oc] 69)) k q := ⟨(Rst.refl h).kept (World.grownBy_alloc _ _ _), by rw [← hbb]; exact Blk.new w 69 _, fun e => by have := h.lt b e; omega⟩
  have HH := Lib.hid (And.intro hlu (And.intro hB (And.intro ho (And.intro hof (And.intro hcz (And.intro hb (And.intro hm1 (And.intro hnm (And.intro hnk (And.intro hM (And.intro hst hbb)))))))))))
  unfold Dup at hdu
  rw [hM] at hdu ⊢
  obtain ⟨a, ha⟩ : ∃ a, k.ploc = a := ⟨_, rfl⟩
  obtain ⟨p, hp⟩ : ∃ p, k.plen = p := ⟨_, rfl⟩
  obtain ⟨c, hc⟩ : ∃ b, k.pname = b := ⟨_, rfl⟩
  rw [ha] at e2 hdu
  rw [hp] at e3 hdu
  rw [hc] at e4 hdu
  have HD := Lib.hid hdu
  obtain ⟨Q, hQ⟩ : ∃ Q, IsAdd f B k ((runQ T q T.size).mapq ol oc nm) w ns' off (M : Int) s = Q := ⟨_, rfl⟩
  rw [hQ]
  have HQ := Lib.hid hQ
  subst hv
  have HBB := Lib.hid hbb
  clear hlu h hB ho hof hb hnm hnk hdu hst ha hp hc hQ hbb
  go_enter Tryd.func14, Tryd.ntmps14
  go_upto_region 1 with fail
  go_cut [34] (fun x wx => x = .bool false ∧ Ax f B b k w #[.int .i64 off, .int .i64 ol, .int .i64 oc] wx k q)
  case first =>
    by_cases h1 : off = a
    · have d1 : (off == a) = true := beq_iff_eq.2 h1
      have d2 : (p == (M : Int)) = false := beq_eq_false_iff_ne.2 (fun e => HD.out ⟨h1, .inl e⟩)
      have d3 := str_no (fun e => HD.out ⟨h1, .inr e⟩)
      clear h1
      go_quiet (fail)
      go_wp2_with fail
      go_meet
      exact ⟨rfl, HH.out.2.2.2.2.2.2.2.2.2.2.1.kept (gb_drewN _ _)⟩
    · have d1 : (off == a) = false := beq_eq_false_iff_ne.2 h1
      clear h1
      go_quiet (fail)
      go_wp2_with fail
      go_meet
      exact ⟨rfl, HH.out.2.2.2.2.2.2.2.2.2.2.1.kept (gb_drewN _ _)⟩
  case rest =>
  obtain ⟨rfl, hA⟩ := hcut
  rw [HBB.out]
  clear e2 e3 e4 hfl
  have e2 := hA.st.rf.blk.cell 2
  have e3 := hA.st.rf.blk.cell 3
  have e4 := hA.st.rf.blk.cell 4
  have fr := hA.st.rf.blk.free
  have hfl := hA.st.rf.blk.lt
  have b0 := hA.bx.cell 0
  simp only [Rk.cells] at e2 e3 e4
  have HA := Lib.hid hA
  clear hA
  go_upto_region 5 with fail
  clear e2 e3 e4 fr hfl b0
  have HA5 : Hid (Ax f B b k w #[.int .i64 off, .int .i64 ol, .int .i64 oc] (((wc.setCell ⟨f, 2, none⟩ (.int .i64 off)).setCell ⟨f, 3, none⟩ (.int .i64 M)).setCell ⟨f, 4, none⟩ (.string s)) { k with ploc := off, plen := M, pname := s } q) := Lib.hid
    (HA.out.step (Rx.fin ((((Rx.start HA.out.st.rf).put 2 (.int .i64 off)).put 3 (.int .i64 M)).put 4 (.string s)) { k with ploc := off, plen := M, pname := s } q rfl rfl rfl rfl rfl rfl rfl (by kernel_rfl)))
  obtain ⟨w5, hw5⟩ : ∃ w5, ((wc.setCell ⟨f, 2, none⟩ (.int .i64 off)).setCell ⟨f, 3, none⟩ (.int .i64 M)).setCell ⟨f, 4, none⟩ (.string s) = w5 := ⟨_, rfl⟩
  rw [hw5] at HA5 ⊢
  clear hw5
  have hM4 : M ≤ 4194304 := by have := HH.out.2.2.2.2.1; have := HH.out.2.2.2.2.2.2.2.2.2.1; omega
  obtain ⟨q1, hq1⟩ : ∃ q1, runQ T q T.size = q1 := ⟨_, rfl⟩
  have HQ1 := Lib.hid hq1
  have HQB : Hid (Qb q1 M m) := Lib.hid (by
    have := HH.out.2.2.2.2.2.1.run T T.size HH.out.2.2.2.2.1
    rw [hq1, HH.out.2.2.2.2.2.2.2.2.2.1] at this
    exact this)
  clear hq1
  go_upto_region 6 with (go_at_call 18; (refine (scan_all f B { k with ploc := off, plen := M, pname := s } q _ u m T w5 HH.out.1 HA5.out.st.rf (Nat.le_trans HH.out.2.1 HA5.out.st.ch.size) ?gov ?gof HH.out.2.2.2.2.1 HH.out.2.2.2.2.2.1 (by omega)).mono ?gpost; rotate_left 2; rintro e w6 ⟨k2, rfl, hs6, hk6, hl6⟩; rw [HQ1.out] at hs6; rw [HH.out.2.2.2.2.2.2.2.2.2.1] at hl6; have HA6 : Hid (AxP f B b k w #[.int .i64 off, .int .i64 ol, .int .i64 oc] q1 k.ns off M s w6) := Lib.hid ⟨k2, HA5.out.step hs6, hk6.ns, hk6.ploc, hk6.plen, hk6.pname, hl6⟩; clear hs6 hk6 hl6))
  case gov => exact HH.out.2.2.1.ch HA5.out.st.ch HH.out.2.2.2.1
  case gof => exact fun o ho e => HH.out.2.2.2.1 o ho e
  obtain ⟨k2, hA, hns, hpl, hple, hpn, hla⟩ := HA6.out
  have e5 := hA.st.rf.blk.cell 5
  have e6 := hA.st.rf.blk.cell 6
  have e8 := hA.st.rf.blk.cell 8
  have hfl := hA.st.rf.blk.lt
  simp only [Rk.cells] at e5 e6 e8
  have HK := Lib.hid (And.intro hA (And.intro hns (And.intro hpl (And.intro hple (And.intro hpn hla)))))
  clear hA hns hpl hple hpn hla
  obtain ⟨gz, hgz⟩ : ∃ z, q1.gcol = z := ⟨_, rfl⟩
  obtain ⟨lz, hlz⟩ : ∃ z, q1.ls = z := ⟨_, rfl⟩
  obtain ⟨pz, hpz⟩ : ∃ z, q1.hp = z := ⟨_, rfl⟩
  rw [hgz] at e8
  rw [hlz] at e6
  rw [hpz] at e5
  have HZ := Lib.hid (And.intro hgz (And.intro hlz hpz))
  clear hgz hlz hpz
  go_cut [69] (fun x wc => BoW (!lz && (decide (0 < gz) && pz)) w6 x wc)
  case first =>
    by_cases hg : 0 < gz
    · have dg : decide (0 < gz) = true := decide_eq_true hg
      rcases lz with _ | _
      all_goals
        rcases pz with _ | _
        all_goals
          go_wp2_with fail
          go_meet
          exact ⟨by simp [dg], rfl⟩
    · have dg : decide (0 < gz) = false := decide_eq_false hg
      rcases lz with _ | _
      all_goals
        rcases pz with _ | _
        all_goals
          go_wp2_with fail
          go_meet
          exact ⟨by simp [dg], rfl⟩
  case rest =>
  obtain ⟨rfl, hcw⟩ := hcut
  have hcw1 := hcw.symm
  subst hcw1
  clear hcw e5 e6 e8
  obtain ⟨cv, hcv⟩ : ∃ cv, (!lz && (decide (0 < gz) && pz)) = cv := ⟨_, rfl⟩
  rw [hcv]
  have HCV : Hid (q1.cov2 = if cv = true then q1.app 0 q1.ol q1.oc none else q1) := Lib.hid (by rw [← hcv, ← HZ.out.1, ← HZ.out.2.1, ← HZ.out.2.2]; rfl)
  clear hcv
  have HLN : Hid ((q1.cur.length ≤ 33554432 ∧ q1.rows.length ≤ 33554432 ∧ sgs q1.toks ≤ 33554432 ∧ B ≤ w6.heap.size) ∧ q1.cov2.cur.length ≤ 33554432 ∧ q1.cov2.rows.length ≤ 33554432 ∧ sgs q1.cov2.toks ≤ 33554432) := Lib.hid (by
    have hb := HQB.out
    have := hb.len; have := hb.rows; have := hb.cur; have := hb.sg; have := HH.out.2.1; have := HK.out.1.st.ch.size; have := HH.out.2.2.2.2.2.2.1
    obtain ⟨hb2, h2, h3⟩ := hb.cov2 hM4
    have := hb2.len; have := hb2.rows; have := hb2.cur; have := hb2.sg
    omega)
  go_upto_if 69 with fail
  go_cut [] (fun wx => AxP f B b k w #[.int .i64 off, .int .i64 ol, .int .i64 oc] q1.cov2 k.ns off M s wx)
  case first =>
    cases cv
    · go_wp2_with fail
      go_meet
      rw [HCV.out]
      exact ⟨k2, HK.out⟩
    · go_wp2_with (go_at_call 30; (refine (cover_any f B k2 q1 _ HK.out.1.st.rf HLN.out.1.2.2.2 HLN.out.1.1 HLN.out.1.2.1 HLN.out.1.2.2.1).mono ?_; rintro e w7 ⟨k3, rfl, hs7, hk7, hl7⟩; have H7 : Hid (AxP f B b k w #[.int .i64 off, .int .i64 ol, .int .i64 oc] q1.cov2 k.ns off M s w7) := Lib.hid ⟨k3, by rw [HCV.out]; exact HK.out.1.step hs7, hk7.ns.trans HK.out.2.1, hk7.ploc.trans HK.out.2.2.1, hk7.plen.trans HK.out.2.2.2.1, hk7.pname.trans HK.out.2.2.2.2.1, hl7.trans HK.out.2.2.2.2.2⟩; clear hs7 hk7 hl7))
      go_meet
      exact H7.out
  case rest =>
  have HA7 := Lib.hid hcut
  clear hcut hfl
  obtain ⟨q2, hq2⟩ : ∃ q2, q1.cov2 = q2 := ⟨_, rfl⟩
  rw [hq2] at HA7 HLN
  have HQ2 : Hid (q1.cov2 = q2 ∧ q2.gcol = q1.gcol) := Lib.hid ⟨hq2, by rw [← hq2]; exact (HQB.out.cov2 hM4).2.2⟩
  clear hq2 HCV
  go_upto_region 9 with fail
  go_cut [73] (fun x wx => BoW (decide (s.size ≠ 0)) wc x wx)
  case first =>
    go_wp2_with fail
    go_meet
    refine ⟨?_, rfl⟩
    by_cases h0 : s.size = 0
    · rw [str_yes0 h0]; simp [h0]
    · rw [str_no0 h0]; simp [h0]
  case rest =>
  obtain ⟨rfl, hcw⟩ := hcut
  have hcw1 := hcw.symm
  subst hcw1
  clear hcw
  obtain ⟨nz, hnz⟩ : ∃ z, decide (s.size ≠ 0) = z := ⟨_, rfl⟩
  rw [hnz]
  have HNZ := Lib.hid hnz
  clear hnz
  go_upto_if 73 with fail
  go_cut [8] (fun x wx => x = .int .i64 (nmI nm) ∧ AxP f B b k w #[.int .i64 off, .int .i64 ol, .int .i64 oc] q2 ns' off M s wx)
  case first =>
    obtain ⟨k3, hA, hns, hpl, hple, hpn, hla⟩ := HA7.out
    have hnn := HH.out.2.2.2.2.2.2.2.1
    have hnk := HH.out.2.2.2.2.2.2.2.2.1
    have HK3 := Lib.hid (And.intro hA (And.intro hns (And.intro hpl (And.intro hple (And.intro hpn (And.intro hla hnk))))))
    have e1 := hA.st.rf.blk.cell 1
    have fr := hA.st.rf.blk.free
    have hfl := hA.st.rf.blk.lt
    simp only [Rk.cells] at e1
    have hNle := hnk.le
    have hnms := hA.st.rf.nms
    rw [hns] at hnms
    obtain ⟨N, hN⟩ : ∃ N, k.ns.length = N := ⟨_, rfl⟩
    obtain ⟨nao, ncap, hnv, _⟩ := hnms.form
    have hl2 : ((k.ns.map Value.string).map fun x => [x]).length = N := by simp [hN]
    rw [hl2] at hnv
    rw [hnv] at e1
    have HNV := Lib.hid (And.intro hnv (And.intro hnms hN))
    have hnd := hnk.nd
    rw [hN] at hNle
    clear hA hns hpl hple hpn hla hnk hnms hnv hl2
    cases hnn with
    | no h0 =>
      obtain rfl : nz = false := by rw [← HNZ.out]; simp [h0]
      clear e1 h0
      go_wp2_with fail
      go_meet
      exact ⟨rfl, k3, HK3.out.1, HK3.out.2.1, HK3.out.2.2.1, HK3.out.2.2.2.1, HK3.out.2.2.2.2.1, HK3.out.2.2.2.2.2.1⟩
    | old j h0 h1 =>
      obtain rfl : nz = true := by rw [← HNZ.out]; simp [h0]
      have hjN : j < N := by rw [← hN]; exact (List.getElem?_eq_some_iff.1 h1).1
      have HJ := Lib.hid (And.intro h1 hnd)
      clear h0 h1 hnd hN
      go_wp2_with fail
      go_loopg [8, 79] N (fun kk x y wx => ∃ i : Nat, i ≤ j ∧ N - i ≤ kk ∧ x = .int .i64 (-1) ∧ y = .int .i64 i ∧ wx = wc)
      case atStart => exact ⟨0, Nat.zero_le _, by omega, rfl, rfl, rfl⟩
      case round =>
        obtain ⟨i, hij, hik, rfl, rfl, hwx⟩ := hrel
        rw [hwx]
        have hiN : i < N := by omega
        obtain ⟨g, cap', hv', _, hgl, hgc, _⟩ := Own1.at HNV.out.2.1 i (by rw [List.length_map]; have := HNV.out.2.2; omega)
        rw [HNV.out.1] at hv'
        injection hv' with hno _ _
        subst hno
        have hik2 : i < k.ns.length := by have := HNV.out.2.2; omega
        obtain ⟨t, ht⟩ : ∃ t, k.ns[i]? = some t := ⟨_, List.getElem?_eq_getElem hik2⟩
        have hgc2 : wc.cell? ⟨g, i, none⟩ = some (.string t) := by
          rw [hgc]; simp only [List.getElem_map]
          rw [List.getElem?_eq_getElem hik2] at ht
          rw [Option.some.inj ht]
        clear hgc
        rcases (show i = j ∨ i < j by omega) with rfl | hlt
        · have d1 : (t.toList == s.toList) = true := str_yes (Option.some.inj (ht.symm.trans HJ.out.1))
          clear ht
          go_wp2_with fail
          go_meet
          exact ⟨rfl, k3, HK3.out.1, HK3.out.2.1, HK3.out.2.2.1, HK3.out.2.2.2.1, HK3.out.2.2.2.2.1, HK3.out.2.2.2.2.2.1⟩
        · have d1 : (t.toList == s.toList) = false := str_no (fun e => by have := nodup_at HJ.out.2 (e ▸ ht) HJ.out.1; omega)
          clear ht
          go_wp2_with fail
          go_roundg (N - (i + 1))
          case measure => omega
          case rel => exact ⟨i + 1, by omega, Nat.le_refl _, rfl, by go_num, rfl⟩
    | new h0 h1 =>
      obtain rfl : nz = true := by rw [← HNZ.out]; simp [h0]
      have HJ := Lib.hid h1
      clear h0 h1 hnd hN
      go_wp2_with fail
      go_loopg [8, 79] N (fun kk x y wx => ∃ i : Nat, i ≤ N ∧ N - i ≤ kk ∧ x = .int .i64 (-1) ∧ y = .int .i64 i ∧ wx = wc)
      case atStart => exact ⟨0, Nat.zero_le _, by omega, rfl, rfl, rfl⟩
      case round =>
        obtain ⟨i, hij, hik, rfl, rfl, hwx⟩ := hrel
        rw [hwx]
        rcases (show i = N ∨ i < N by omega) with rfl | hiN
        · have HB : Hid (((k3.ns.map Value.string).map (fun x => [x])).length + 1 ≤ maxLen ∧ (((k3.ns.map Value.string).map (fun x => [x])).length + 1) * 16 ≤ 140737488355328 ∧ B ≤ wc.heap.size) := Lib.hid (by
            have := HK3.out.2.1; have := HNV.out.2.2; have := HH.out.2.1; have := HK3.out.1.st.ch.size; simp only [List.length_map, maxLen]; rw [HK3.out.2.1]; omega)
          go_upto_region 18 with fail
          go_wp2_with (at_builtin; (refine wpList_pushT _ rfl (.tmp 104) (.tmp 106) 65 9 1 rfl B Tryd.underlying65 16 (.string ByteArray.empty) rfl (by omega) info9 k3.nv ((k3.ns.map Value.string).map (fun x => [x])) [.string s] HNV.out.1.symm (OwnT.gb HK3.out.1.st.rf.nms (World.grownBy_alloc wc _ none) (Classical.em _)) wc.heap.size rfl (Blk.new _ _ _) rfl (by intro u hu; simp at hu; subst hu; rfl) HB.out.1 HB.out.2.1 (by have := HB.out.2.2; simp; omega) ?_; intro v' w8 ho8 hg8 hn8; have HR8 := Lib.hid ((Rx.start HK3.out.1.st.rf).name (World.grownBy_alloc wc _ none) ho8 hg8 hn8); obtain ⟨ao8, n8, cap8, hv8⟩ := ho8.slice; subst hv8; have f1 := HR8.out.blk.cell 1; have ff := HR8.out.blk.free; have hf8 := HR8.out.blk.lt; simp only [Rk.cells] at f1; clear ho8 hg8 hn8 e1))
          go_meet
          have hx := Rx.fin (HR8.out.put 1 (.slice ao8 n8 cap8)) { k3 with nv := .slice ao8 n8 cap8, ns := k3.ns ++ [s] } q2 rfl rfl rfl rfl rfl rfl rfl (by kernel_rfl)
          refine ⟨by rw [HNV.out.2.2]; rfl, _, HK3.out.1.step hx, ?_, HK3.out.2.2.1, HK3.out.2.2.2.1, HK3.out.2.2.2.2.1, HK3.out.2.2.2.2.2.1⟩
          show k3.ns ++ [s] = _
          rw [HK3.out.2.1]
        · obtain ⟨g, cap', hv', _, hgl, hgc, _⟩ := Own1.at HNV.out.2.1 i (by rw [List.length_map]; have := HNV.out.2.2; omega)
          rw [HNV.out.1] at hv'
          injection hv' with hno _ _
          subst hno
          have hik2 : i < k.ns.length := by have := HNV.out.2.2; omega
          obtain ⟨t, ht⟩ : ∃ t, k.ns[i]? = some t := ⟨_, List.getElem?_eq_getElem hik2⟩
          have hgc2 : wc.cell? ⟨g, i, none⟩ = some (.string t) := by
            rw [hgc]; simp only [List.getElem_map]
            rw [List.getElem?_eq_getElem hik2] at ht
            rw [Option.some.inj ht]
          clear hgc
          have d1 : (t.toList == s.toList) = false := str_no (fun e => HJ.out (e ▸ List.mem_of_getElem? ht))
          clear ht
          go_wp2_with fail
          go_roundg (N - (i + 1))
          case measure => omega
          case rel => exact ⟨i + 1, by omega, Nat.le_refl _, rfl, by go_num, rfl⟩
  case rest =>
  obtain ⟨rfl, hA8⟩ := hcut
  have HA8 := Lib.hid hA8
  clear hA8
  go_upto_region 20 with fail
  go_upto_if 111 with fail
  go_cut [10] (fun x wx => x = .int .i64 (if nm.isSome then 5 else 4) ∧ wx = wc)
  case first =>
    cases nm with
    | none =>
      simp only [nmI]
      go_wp2_with fail
      go_meet
      exact ⟨rfl, rfl⟩
    | some j =>
      simp only [nmI]
      go_wp2_with fail
      go_meet
      exact ⟨rfl, rfl⟩
  case rest =>
  obtain ⟨rfl, hcw⟩ := hcut
  have hcw1 := hcw.symm
  subst hcw1
  clear hcw
  obtain ⟨A1, hA1⟩ : ∃ A, (if nm.isSome then (5 : Int) else 4) = A := ⟨_, rfl⟩
  obtain ⟨A5, hA5⟩ : ∃ A, nmI nm = A := ⟨_, rfl⟩
  rw [hA1, hA5]
  have HA15 := Lib.hid (And.intro hA1 hA5)
  clear hA1 hA5
  obtain ⟨k4, hA, hns, hpl, hple, hpn, hla⟩ := HA8.out
  have e8 := hA.st.rf.blk.cell 8
  have hfl := hA.st.rf.blk.lt
  have b1 := hA.bx.cell 1
  have b2 := hA.bx.cell 2
  have hbl := hA.bx.lt
  simp only [Rk.cells] at e8
  simp at b1 b2
  obtain ⟨gz2, hgz2⟩ : ∃ z, q2.gcol = z := ⟨_, rfl⟩
  rw [hgz2] at e8
  have HK4 := Lib.hid (And.intro hA (And.intro hns (And.intro hpl (And.intro hple (And.intro hpn (And.intro hla hgz2))))))
  clear hA hns hpl hple hpn hla hgz2
  go_upto_region 22 with fail
  go_still_tail 12, (by kernel_rfl)
  change wpList _ _ _ _ _ wc.drew
  have HDR : Hid (Ax f B b k w #[.int .i64 off, .int .i64 ol, .int .i64 oc] wc.drew k4 q2 ∧ B ≤ wc.drew.heap.size) := Lib.hid ⟨HK4.out.1.kept (gb_drewN _ 1), Nat.le_trans HH.out.2.1 (HK4.out.1.kept (gb_drewN _ 1)).st.ch.size⟩
  obtain ⟨w8, hw8⟩ : ∃ w8, wc.drew = w8 := ⟨_, rfl⟩
  rw [hw8] at HDR ⊢
  clear hw8
  go_upto_region 23 with (go_at_call 31; (refine (emit_any f B k4 q2 gz2 ol oc nm A1 A5 HA15.out.1.symm HA15.out.2.symm w8 HDR.out.1.st.rf HDR.out.2 HLN.out.2.1 HLN.out.2.2.1 HLN.out.2.2.2).mono ?_; rintro e w9 ⟨k5, rfl, hs9, hn9, hl9, hp9, hq9, hr9⟩; have HA9 : Hid (Rst w f B k w9 k5 (q2.app gz2 ol oc nm) ∧ k5.ns = ns' ∧ k5.ploc = off ∧ k5.plen = M ∧ k5.pname = s ∧ k5.last = M) := Lib.hid ⟨HDR.out.1.st.trans hs9, hn9.trans HK4.out.2.1, hl9.trans HK4.out.2.2.1, hp9.trans HK4.out.2.2.2.1, hq9.trans HK4.out.2.2.2.2.1, hr9.trans HK4.out.2.2.2.2.2.1⟩; clear hs9 hn9 hl9 hp9 hq9 hr9))
  have e6 := HA9.out.1.rf.blk.cell 6
  have fr := HA9.out.1.rf.blk.free
  have hf9 := HA9.out.1.rf.blk.lt
  simp only [Rk.cells] at e6
  clear e8 b1 b2 hbl hfl
  go_wp2_with fail
  go_end0
  have hmq : ({ q2.app gz2 ol oc nm with ls := true } : Pq) = (runQ T q T.size).mapq ol oc nm := by
    rw [HQ1.out, ← HK4.out.2.2.2.2.2.2, HQ2.out.2, ← HQ2.out.1]; rfl
  rw [← HQ.out, ← hmq]
  refine ⟨k5, rfl, HA9.out.1.trans (Rx.fin ((Rx.start HA9.out.1.rf).put 6 (.bool true)) k5 _ rfl rfl rfl rfl rfl rfl rfl (by kernel_rfl)), HA9.out.2.1, HA9.out.2.2.1, HA9.out.2.2.2.1, HA9.out.2.2.2.2.1, HA9.out.2.2.2.2.2⟩
end Go.Proofs.YtfbeeekakfllpaaDoor
