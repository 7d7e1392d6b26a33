/-
  (*ChunkBuilder).AddSourceMapping. No statement of the seat is proved here.
-/
import Derived.Test.YtfbeeekakfllpaaDoorBn
import Derived.Test.YtfbeeekakfllpaaDoorLt
import Derived.Deep.CutBlock
namespace Go.Proofs.YtfbeeekakfllpaaDoor
open Go.RowKit Go.Maps
set_option linter.unusedVariables false
set_option linter.unusedSimpArgs false
def Bp (w : World) (g : Nat) (x : Cb) (sm : Value) (qvs : List Value) (bm : Nat) (asc : Bool) (q' : Pq) (ns' : List ByteArray) (lu pgl loc : Int) (pon : ByteArray) (lot : Value) (wx : World) : Prop := ∃ x' sm' qvs', Bs w g x sm qvs bm asc wx x' sm' q' qvs' ns' ∧ x'.lu = lu ∧ x'.pgl = pgl ∧ x'.loc = loc ∧ x'.pon = pon ∧ x'.lot = lot ∧ Fno x'.fno q' ns'
set_option maxRecDepth 100000 in
set_option maxHeartbeats 40000000 in
theorem asm_new (g : Nat) (x : Cb) (sm v : Value) (q : Pq) (qvs : List Value) (ns ns' : List ByteArray) (bm : Nat) (asc : Bool) (u m : Nat) (T0 : ByteArray) (src : ByteArray) (p tg B2 lcap : Nat) (s : ByteArray) (nm : Option Nat) (w : World) (h : Bu w g x sm q qvs ns bm asc) (hfn : Fno x.fno q ns) (hlu : x.lu = (u : Nat)) (ho : OutV v u T0 w) (hof : ∀ o, v.ownBlock = some o → ¬ bfp g x sm qvs bm o) (hcz : u + T0.size ≤ 4194304) (hb : Qb q u m) (hm : m ≤ 1048000)
    (hlot : x.lot = .slice (some ⟨tg, 0, none⟩) (lns src).length lcap) (hlt : LtAt src w tg B2) (hB2 : B2 ≤ bm) (hsz : src.size ≤ 2097152) (hp : Bd src p) (hs : s ∈ nms) (hnm : Nmd ns s ns' nm) (hnk : Nok ns m) (hdu : ¬ ((p : Int) = x.loc ∧ (x.pgl = ((u + T0.size : Nat) : Int) ∨ x.pon = s))) :
    Calls Tryd.prog 13 #[.pointer (some ⟨g, 0, none⟩), .agg #[.int .i32 p], .string s, v] w (IsBs w g x sm qvs bm asc ((runQ T0 q T0.size).mapq ((T src p).length : Nat) ((U src p - U src (LS src p) : Nat) : Int) nm) ns' ((u + T0.size : Nat) : Int) ((u + T0.size : Nat) : Int) p s x.lot) := by
  obtain ⟨M, hM⟩ : ∃ M, u + T0.size = M := ⟨_, rfl⟩
  obtain ⟨ao, cap, hv⟩ : ∃ ao cap, v = .slice ao M cap := by
    rcases ho with ⟨h1, h2, h3⟩ | ⟨o, cap, h1, _⟩
    · exact ⟨none, 0, by rw [h1, ← hM, h2, h3]⟩
    · exact ⟨_, cap, by rw [h1, hM]⟩
  have e15 := h.cbd.blk.cell 15
  have e16 := h.cbd.blk.cell 16
  have e5 := h.cbd.blk.cell 5
  have hgl := h.cbd.blk.lt
  simp only [up, Cb.cells] at e15 e16 e5
  obtain ⟨b, hbb⟩ : ∃ b, w.heap.size = b := ⟨_, rfl⟩
  have hbg : ¬ b = g := by omega
  have hst : Bs w g x sm qvs bm asc (w.alloc (.cells #[.int .i32 p] 59)) x sm q qvs ns ∧ Blk (w.alloc (.cells #[.int .i32 p] 59)) b 59 #[.int .i32 p] ∧ ¬ bfp g x sm qvs bm b := ⟨(Bs.refl h).kept (World.grownBy_alloc _ _ _), by rw [← hbb]; exact Blk.new w 59 _, fun e => by have := (h.lt b e).1; omega⟩
  have HH := Lib.hid (And.intro h (And.intro hfn (And.intro hlu (And.intro ho (And.intro hof (And.intro hcz (And.intro hb (And.intro hm (And.intro hlot (And.intro hlt (And.intro hB2 (And.intro hsz (And.intro hp (And.intro hs (And.intro hnm (And.intro hnk (And.intro hM hst)))))))))))))))))
  rw [hM] at hdu ⊢
  obtain ⟨a, ha⟩ : ∃ a, x.loc = a := ⟨_, rfl⟩
  obtain ⟨pl, hpl⟩ : ∃ p, x.pgl = p := ⟨_, rfl⟩
  obtain ⟨c, hc⟩ : ∃ b, x.pon = b := ⟨_, rfl⟩
  rw [ha] at e16 hdu
  rw [hpl] at e15 hdu
  rw [hc] at e5 hdu
  have HD := Lib.hid hdu
  subst hv
  have HBB := Lib.hid hbb
  clear h hfn hlu ho hof hb hlot hlt hB2 hp hs hnm hnk hdu hst ha hpl hc hbb
  go_enter Tryd.func13, Tryd.ntmps13
  go_upto_region 1 with fail
  go_cut [37] (fun y wx => y = .bool false ∧ (∃ nq, wx = (w.alloc (.cells #[.int .i32 p] 59)).drewN nq))
  case first =>
    as_aux_lemma =>
      by_cases h1 : (p : Int) = a
      · have d1 : ((p : Int) == a) = true := beq_iff_eq.2 h1
        have d2 : (pl == (M : Int)) = false := beq_eq_false_iff_ne.2 (fun e => HD.out ⟨h1, .inl e⟩)
        have d3 := str_no (fun e => HD.out ⟨h1, .inr e⟩)
        clear h1
        go_quiet (fail)
        go_wp2_with fail
        go_meet
        exact ⟨rfl, _, rfl⟩
      · have d1 : ((p : Int) == a) = false := beq_eq_false_iff_ne.2 h1
        clear h1
        go_quiet (fail)
        go_wp2_with fail
        go_meet
        exact ⟨rfl, _, rfl⟩
  case rest =>
  obtain ⟨rfl, nq, hwx⟩ := hcut
  rw [HBB.out]
  have hst := HH.out.2.2.2.2.2.2.2.2.2.2.2.2.2.2.2.2.2
  have hA : Bs w g x sm qvs bm asc wc x sm q qvs ns := by rw [hwx]; exact hst.1.kept (gb_drewN _ _)
  have hB : Blk wc b 59 #[.int .i32 p] := by rw [hwx]; exact hst.2.1
  have hnb := hst.2.2
  clear hwx hst e5 e15 e16 hgl
  have e5 := hA.bu.cbd.blk.cell 5
  have e15 := hA.bu.cbd.blk.cell 15
  have e16 := hA.bu.cbd.blk.cell 16
  have fr := hA.bu.cbd.blk.free
  have hgl := hA.bu.cbd.blk.lt
  have b0 := hB.cell 0
  simp only [up, Cb.cells] at e5 e15 e16
  have HA := Lib.hid (And.intro hA (And.intro hB hnb))
  clear hA hB hnb
  go_upto_region 5 with fail
  clear e5 e15 e16 fr hgl b0
  have hs1 := HA.out.1.bu.put 16 (.int .i32 p) (x' := { x with loc := p }) (q' := q) (by kernel_rfl) rfl rfl rfl rfl rfl rfl
  have hs2 := hs1.bu.put 15 (.int .i64 M) (x' := { x with loc := p, pgl := M }) (q' := q) (by kernel_rfl) rfl rfl rfl rfl rfl rfl
  have hs3 := hs2.bu.put 5 (.string s) (x' := { x with loc := p, pgl := M, pon := s }) (q' := q) (by kernel_rfl) rfl rfl rfl rfl rfl rfl
  have hB5 : Blk (((wc.setCell ⟨g, 16, none⟩ (.int .i32 p)).setCell ⟨g, 15, none⟩ (.int .i64 M)).setCell ⟨g, 5, none⟩ (.string s)) b 59 #[.int .i32 p] := blk_set_ne (blk_set_ne (blk_set_ne HA.out.2.1 hbg 16 none _) hbg 15 none _) hbg 5 none _
  have HA5 := Lib.hid (And.intro (((HA.out.1.trans hs1).trans hs2).trans hs3) hB5)
  clear hs1 hs2 hs3 hB5
  obtain ⟨w5, hw5⟩ : ∃ w5, ((wc.setCell ⟨g, 16, none⟩ (.int .i32 p)).setCell ⟨g, 15, none⟩ (.int .i64 M)).setCell ⟨g, 5, none⟩ (.string s) = w5 := ⟨_, rfl⟩
  rw [hw5] at HA5 ⊢
  clear hw5
  have e4 := HA5.out.1.bu.cbd.blk.cell 4
  have hgl := HA5.out.1.bu.cbd.blk.lt
  simp only [up, Cb.cells] at e4
  rw [HH.out.2.2.2.2.2.2.2.2.1] at e4
  have hlt5 : LtAt src w5 tg B2 := (HH.out.2.2.2.2.2.2.2.2.2.1).below (HA5.out.1.ch.to_below (by have := (HH.out.1.lt bm (.inr (.inr (.inr (.inl rfl))))).1; have := HH.out.2.2.2.2.2.2.2.2.2.2.1; omega) (fun i hi => by have := (HH.out.1.lt i hi).2; have := HH.out.2.2.2.2.2.2.2.2.2.2.1; omega)) (by have := (HH.out.1.lt bm (.inr (.inr (.inr (.inl rfl))))).1; have := HH.out.2.2.2.2.2.2.2.2.2.2.1; omega)
  obtain ⟨N, hN⟩ : ∃ N, (lns src).length = N := ⟨_, rfl⟩
  rw [hN] at e4
  have hbd := HH.out.2.2.2.2.2.2.2.2.2.2.2.2.1
  obtain ⟨en, hln, hpe, hes, hlo, hhi⟩ := line_at src p hbd
  have hTl := T_len src p
  obtain ⟨L, hL⟩ : ∃ L, (T src p).length = L := ⟨_, rfl⟩
  rw [hL] at hln hlo hhi hTl
  have hLN : L < N := by rw [← hN]; exact (List.getElem?_eq_some_iff.1 hln).1
  have hNz : N ≤ 2097153 := by
    rw [← hN]; unfold lns; rw [List.length_append]; have := T_len src src.size; have := HH.out.2.2.2.2.2.2.2.2.2.2.2.1; simp; omega
  have hpz : p ≤ 2097152 := by have := hbd.le; have := HH.out.2.2.2.2.2.2.2.2.2.2.2.1; omega
  have HLT := Lib.hid (And.intro hlt5 (And.intro hN (And.intro hln (And.intro hpe (And.intro hes (And.intro hlo (And.intro hhi hL)))))))
  have b0 := HA5.out.2.cell 0
  have hbl := HA5.out.2.lt
  simp at b0
  clear hlt5 hN hln hpe hes hlo hhi hL hbd hTl
  go_upto_block 0 with fail
  clear e4
  go_cut [10] (fun y wx => y = .int .i64 (L + 1 : Nat) ∧ ∃ nq, wx = w5.drewN nq)
  case first =>
    as_aux_lemma =>
      focus
        go_wp2_with fail
        go_loopg [9, 10] N (fun k y9 y10 wx => ∃ lo cnt nq : Nat, y9 = .int .i64 cnt ∧ y10 = .int .i64 lo ∧ cnt ≤ k ∧ lo ≤ L + 1 ∧ L + 1 ≤ lo + cnt ∧ lo + cnt ≤ N ∧ wx = w5.drewN nq)
        case atStart => exact ⟨0, N, 0, rfl, rfl, Nat.le_refl _, by omega, by omega, by omega, rfl⟩
        case round =>
          obtain ⟨lo, cnt, nq, rfl, rfl, hk, h1, h2, h3, hwx⟩ := hrel
          rcases Nat.eq_zero_or_pos cnt with rfl | hpos
          · obtain rfl : lo = L + 1 := by omega
            have HWX := Lib.hid hwx
            clear hwx
            go_wp2_with fail
            go_meet
            exact ⟨rfl, nq, HWX.out⟩
          · obtain ⟨stp, hstp⟩ : ∃ stp, cnt / 2 = stp := ⟨_, rfl⟩
            have hsl : stp < cnt := by omega
            have hq : ((cnt : Int).tdiv 2) = (stp : Int) := by rw [Int.tdiv_eq_ediv_of_nonneg (by omega)]; omega
            obtain ⟨i, hi⟩ : ∃ i, lo + stp = i := ⟨_, rfl⟩
            have hiN : i < N := by omega
            obtain ⟨cao, cn, ccap, f, cc, _, _, hst, _⟩ := HLT.out.1.2.2 i (by rw [HLT.out.2.1]; exact hiN)
            obtain ⟨st, hste⟩ : ∃ st, ((lns src)[i]'(by rw [HLT.out.2.1]; exact hiN)).1 = st := ⟨_, rfl⟩
            rw [hste] at hst
            have hst' : wr.cell? ⟨tg, i * 3 + 2, none⟩ = some (.int .i32 st) := by rw [hwx]; exact hst
            have b0' : wr.cell? ⟨b, 0, none⟩ = some (.int .i32 p) := by rw [hwx]; exact b0
            have HWX := Lib.hid hwx
            have hic : (lo : Int) + (stp : Int) = (i : Int) := by omega
            have HI := Lib.hid (And.intro hi hstp)
            by_cases hle : i ≤ L
            · have hd : (st : Int) ≤ (p : Int) := by
                have := HLT.out.2.2.2.2.2.1 i _ (List.getElem?_eq_getElem (by rw [HLT.out.2.1]; exact hiN)) hle
                rw [hste] at this; omega
              clear hst hste hwx hi hstp b0
              obtain ⟨c2, hc2⟩ : ∃ c2 : Nat, cnt - stp - 1 = c2 := ⟨_, rfl⟩
              have hcc : ((cnt : Int) - (stp : Int)) - 1 = (c2 : Int) := by omega
              have hcl : (c2 : Int) ≤ 2097153 := by omega
              have HC2 := Lib.hid hc2
              clear hc2
              go_wp2_with fail
              go_quiet (fail)
              go_wp2_with fail
              go_roundg c2
              case measure => have := HC2.out; omega
              case rel => exact ⟨i + 1, c2, _, by go_num, by go_num, Nat.le_refl _, by omega, by have := HC2.out; have := HI.out.1; omega, by have := HC2.out; have := HI.out.1; omega, by rw [HWX.out]; simp; rfl⟩
            · have hd : (p : Int) < (st : Int) := by
                have := HLT.out.2.2.2.2.2.2.1 i _ (List.getElem?_eq_getElem (by rw [HLT.out.2.1]; exact hiN)) (by omega)
                rw [hste] at this; omega
              clear hst hste hwx hi hstp b0
              go_wp2_with fail
              go_quiet (fail)
              go_wp2_with fail
              go_roundg stp
              case measure => omega
              case rel => exact ⟨lo, stp, _, by go_num, by go_num, Nat.le_refl _, h1, by have := HI.out.1; omega, by have := HI.out.1; omega, by rw [HWX.out]; simp; rfl⟩
  case rest =>
  obtain ⟨rfl, nq, hwx⟩ := hcut
  have hLT := HLT.out
  obtain ⟨cao, cn, ccap, f, cc, t0, t1, t2, hent, hcc⟩ := hLT.1.2.2 L (by rw [hLT.2.1]; exact hLN)
  have hget : (lns src)[L]'(by rw [hLT.2.1]; exact hLN) = (LS src p, en) := by
    have := hLT.2.2.1
    rw [List.getElem?_eq_getElem (by rw [hLT.2.1]; exact hLN)] at this
    exact Option.some.inj this
  rw [hget] at t2 hent
  have hbd := HH.out.2.2.2.2.2.2.2.2.2.2.2.2.1
  have hcol := col_at src p en f cc hbd hLT.2.2.2.1 hLT.2.2.2.2.1 hent
  have hls := hbd.ls
  obtain ⟨ls, hlse⟩ : ∃ ls, LS src p = ls := ⟨_, rfl⟩
  obtain ⟨cl, hcle⟩ : ∃ cl, U src p - U src (LS src p) = cl := ⟨_, rfl⟩
  have hUl := U_le src p
  rw [hcle] at hcol
  rw [hlse] at hcol hls t2
  obtain ⟨d, hd⟩ : ∃ d, p - ls = d := ⟨_, rfl⟩
  rw [hd] at hcol
  have s0 : wc.cell? ⟨tg, L * 3, none⟩ = some (.slice cao cn ccap) := by rw [hwx]; exact t0
  have s1 : wc.cell? ⟨tg, L * 3 + 1, none⟩ = some (.int .i32 f) := by rw [hwx]; exact t1
  have s2 : wc.cell? ⟨tg, L * 3 + 2, none⟩ = some (.int .i32 ls) := by rw [hwx]; exact t2
  have bb0 : wc.cell? ⟨b, 0, none⟩ = some (.int .i32 p) := by rw [hwx]; exact b0
  have hpd : (p : Int) - (ls : Int) = (d : Int) := by omega
  have hL1 : ((L + 1 : Nat) : Int) - 1 = (L : Int) := by omega
  have hdz : d ≤ 2097152 := by omega
  have hclz : cl ≤ 4194304 := by omega
  have hfz : f ≤ 2097152 := by
    have := HH.out.2.2.2.2.2.2.2.2.2.2.2.1
    rcases hent with ⟨_, h, _⟩ | ⟨⟨_, h, _⟩, _⟩ <;> omega
  have HC := Lib.hid (And.intro hcol (And.intro hcc (And.intro hwx (And.intro hcle hlse))))
  clear hcol hcc hwx hcle hlse hent hget t0 t1 t2 hd hUl hLT hbd b0
  go_upto_region 17 with fail
  have hwr : IntKind.i32.wrap ((p : Int) - (ls : Int)) = (d : Int) := by rw [hpd, IntKind.wrap_i32]; omega
  have hwd : IntKind.i64.wrap (d : Int) = (d : Int) := by rw [IntKind.wrap_i64]; omega
  have HWD := Lib.hid (And.intro hwr hwd)
  go_quiet (fail)
  go_upto_region 18 with fail
  clear hwr hwd
  have q0 : (wc.drewN nq).cell? ⟨tg, L * 3, none⟩ = some (.slice cao cn ccap) := s0
  have q1 : (wc.drewN nq).cell? ⟨tg, L * 3 + 1, none⟩ = some (.int .i32 f) := s1
  obtain ⟨W7, hW7⟩ : ∃ W7, wc.drewN nq = W7 := ⟨_, rfl⟩
  have HW7 : Hid (∃ k, W7 = w5.drewN k) := Lib.hid ⟨_, by rw [← hW7, HC.out.2.2.1]; simp; rfl⟩
  rw [hW7] at q0 q1 ⊢
  clear hW7 s0 s1 s2 bb0
  go_cut [105] (fun y wx => y = .bool (cc.isSome && decide (f ≤ d)) ∧ wx = W7)
  case first =>
    as_aux_lemma =>
      have hcc := HC.out.2.1
      have hcol := HC.out.1
      have hnl := run_neq_slice_nil_any (P := Tryd.prog) W7 85 21 cao cn ccap 0 0 Tryd.underlying85
      rcases hcc with ⟨rfl, rfl, rfl, rfl⟩ | ⟨zs, hg, rfl, rfl, rfl, _⟩
      · simp only [Option.isNone_none, Bool.not_true] at hnl
        clear hcol
        go_wp2_with fail
        go_meet
        exact ⟨rfl, rfl⟩
      · simp only [Option.isNone_some, Bool.not_false] at hnl
        clear hcol
        go_wp2_with fail
        go_meet
        exact ⟨by simp, rfl⟩
  case rest =>
  obtain ⟨rfl, hwx7⟩ := hcut
  have hwx8 := hwx7.symm
  subst hwx8
  clear hwx7
  go_upto_if 105 with fail
  go_cut [14] (fun y wx => y = .int .i64 cl ∧ ∃ k, wx = w5.drewN k)
  case first =>
    as_aux_lemma =>
      have hcc := HC.out.2.1
      have hcol := HC.out.1
      rcases hcc with ⟨rfl, rfl, rfl, rfl⟩ | ⟨zs, hg, rfl, rfl, rfl, _, _, hcells⟩
      · have hdc := hcol.1 (.inl rfl)
        have HDC := Lib.hid hdc
        clear hcol hdc
        simp only [Option.isSome_none, Bool.false_and]
        go_wp2_with fail
        go_meet
        exact ⟨by rw [HDC.out], HW7.out⟩
      · simp only [Option.isSome_some, Bool.true_and]
        by_cases hfd : f ≤ d
        · obtain ⟨hlt7, hnth⟩ := hcol.2 zs rfl hfd
          obtain ⟨j, hj⟩ : ∃ j, d - f = j := ⟨_, rfl⟩
          rw [hj] at hlt7 hnth
          obtain ⟨k7, hk7⟩ := HW7.out
          have q2 : W7.cell? ⟨hg, j, none⟩ = some (.int .i32 cl) := by rw [hk7, ← hnth]; exact hcells j hlt7
          have hdf : decide (f ≤ d) = true := decide_eq_true hfd
          rw [hdf]
          have hsub : (d : Int) - (f : Int) = (j : Int) := by omega
          have hjl : (j : Int) < (zs.length : Int) := by omega
          have hw1 : IntKind.i64.wrap ((d : Int) - (f : Int)) = (j : Int) := by rw [hsub, IntKind.wrap_i64]; omega
          have hw2 : IntKind.i64.wrap (f : Int) = (f : Int) := by rw [IntKind.wrap_i64]; omega
          have hw3 : IntKind.i64.wrap (cl : Int) = (cl : Int) := by rw [IntKind.wrap_i64]; omega
          have HK7 := Lib.hid hk7
          clear hcol hnth hj hk7 hcells hdf hsub
          go_upto_region 19 with fail
          go_quiet (fail)
          go_wp2_with fail
          go_meet
          exact ⟨rfl, _, by rw [HK7.out]; simp; rfl⟩
        · have hdf : decide (f ≤ d) = false := decide_eq_false hfd
          rw [hdf]
          have hdc := hcol.1 (.inr (by omega))
          have HDC := Lib.hid hdc
          clear hcol hdc hdf hfd hcells
          go_wp2_with fail
          go_meet
          exact ⟨by rw [HDC.out], HW7.out⟩
  case rest =>
  focus
    obtain ⟨rfl, k7, hk7⟩ := hcut
    have hB7 : Bs w g x sm qvs bm asc wc { x with loc := p, pgl := M, pon := s } sm q qvs ns := by rw [hk7]; exact HA5.out.1.kept (gb_drewN _ _)
    have HB7 := Lib.hid (And.intro hB7 (HH.out.2.2.2.1.ch hB7.ch HH.out.2.2.2.2.1))
    have HCL := Lib.hid (And.intro HC.out.2.2.2.1 HLT.out.2.2.2.2.2.2.2)
    clear hk7 hB7 hpd hL1 hls hfz hgl hbl
    obtain ⟨q1, hq1⟩ : ∃ q1, runQ T0 q T0.size = q1 := ⟨_, rfl⟩
    have HQ1 := Lib.hid hq1
    have HQB : Hid (Qb q1 M m) := Lib.hid (by
      have := HH.out.2.2.2.2.2.2.1.run T0 T0.size hcz
      rw [hq1, hM] at this
      exact this)
    clear hq1
    have hM4 : M ≤ 4194304 := by omega
    have HM := Lib.hid hM
    clear hM
    go_upto_region 21 with (go_at_call 27; (refine (bupd g { x with loc := p, pgl := M, pon := s } sm _ q qvs ns bm asc u m T0 wc HB7.out.1.bu HH.out.2.1 HH.out.2.2.1 HB7.out.2 (fun o ho e => HH.out.2.2.2.2.1 o ho e) hcz HH.out.2.2.2.2.2.2.1 (by omega)).mono ?_; rintro e w8 ⟨x', sm', qvs', rfl, hs, h81, h82, h83, h84, h85, h86⟩; rw [HQ1.out] at hs h86; rw [HM.out] at h81; have H8 : Hid (Bp w g x sm qvs bm asc q1 ns M M p s x.lot w8) := Lib.hid ⟨x', sm', qvs', HB7.out.1.trans hs, h81, h82, h83, h84, h85, h86⟩; clear hs h81 h82 h83 h84 h85 h86))
    obtain ⟨x8, sm8, qvs8, hs8, h81, h82, h83, h84, h85, h86⟩ := H8.out
    have e14 := hs8.bu.cbd.blk.cell 14
    have e18 := hs8.bu.cbd.blk.cell 18
    have e20 := hs8.bu.cbd.blk.cell 20
    have e21 := hs8.bu.cbd.blk.cell 21
    have hgl := hs8.bu.cbd.blk.lt
    simp only [up, Cb.cells] at e14 e18 e20 e21
    rw [hs8.bu.cov] at e21
    obtain ⟨gz, hgz⟩ : ∃ z, q1.gcol = z := ⟨_, rfl⟩
    obtain ⟨lz, hlz⟩ : ∃ z, q1.ls = z := ⟨_, rfl⟩
    obtain ⟨pz, hpz⟩ : ∃ z, q1.hp = z := ⟨_, rfl⟩
    rw [hgz] at e14
    rw [hlz] at e20
    rw [hpz] at e18
    have HZ := Lib.hid (And.intro hgz (And.intro hlz hpz))
    have HK := Lib.hid (And.intro hs8 (And.intro h81 (And.intro h82 (And.intro h83 (And.intro h84 (And.intro h85 h86))))))
    clear hs8 h81 h82 h83 h84 h85 h86 hgz hlz hpz
    go_cut [146] (fun y wc => BoW (!lz && (decide (0 < gz) && pz)) w8 y wc)
    case first =>
      by_cases hg : 0 < gz
      · have dg : decide (0 < gz) = true := decide_eq_true hg
        rcases lz with _ | _
        all_goals
          rcases pz with _ | _
          all_goals
            go_wp2_with fail
            go_meet
            exact ⟨by simp [dg], rfl⟩
      · have dg : decide (0 < gz) = false := decide_eq_false hg
        rcases lz with _ | _
        all_goals
          rcases pz with _ | _
          all_goals
            go_wp2_with fail
            go_meet
            exact ⟨by simp [dg], rfl⟩
    case rest =>
    obtain ⟨rfl, hcw⟩ := hcut
    have hcw1 := hcw.symm
    subst hcw1
    clear hcw e14 e18 e20 e21
    obtain ⟨cv, hcv⟩ : ∃ cv, (!lz && (decide (0 < gz) && pz)) = cv := ⟨_, rfl⟩
    rw [hcv]
    have HCV : Hid (q1.cov2 = if cv = true then q1.app 0 q1.ol q1.oc none else q1) := Lib.hid (by rw [← hcv, ← HZ.out.1, ← HZ.out.2.1, ← HZ.out.2.2]; rfl)
    clear hcv
    go_upto_if 146 with fail
    go_cut [] (fun wx => Bp w g x sm qvs bm asc q1.cov2 ns M M p s x.lot wx)
    case first =>
      cases cv
      · go_wp2_with fail
        go_meet
        rw [HCV.out]
        exact ⟨x8, sm8, qvs8, HK.out⟩
      · have e6 := HK.out.1.bu.cbd.blk.cell 6
        have e8 := HK.out.1.bu.cbd.blk.cell 8
        have e9 := HK.out.1.bu.cbd.blk.cell 9
        have e10 := HK.out.1.bu.cbd.blk.cell 10
        simp only [up, Cb.cells] at e6 e8 e9 e10
        go_upto_region 22 with fail
        go_still_tail 22, (by kernel_rfl)
        change wpList _ _ _ _ _ w8.drew
        have HD8 := Lib.hid (HK.out.1.kept (gb_drewN w8 1))
        obtain ⟨w9, hw9⟩ : ∃ w9, w8.drew = w9 := ⟨_, rfl⟩
        have HD9 : Hid (Bs w g x sm qvs bm asc w9 x8 sm8 q1 qvs8 ns) := Lib.hid (by rw [← hw9]; exact HD8.out)
        rw [hw9]
        clear hw9 HD8 e6 e8 e9 e10
        go_wp2_with (go_at_call 28; (refine (bamw0 g x8 sm8 q1 qvs8 ns bm asc M m 0 q1.ol q1.oc w9 HD9.out.bu HK.out.2.2.2.2.2.2 HQB.out hM4 (by omega) (by omega) (by omega) HQB.out.ol0 HQB.out.ol1 HQB.out.oc0 HQB.out.oc1).mono ?_; rintro e wA ⟨x', sm', qvs', rfl, hs, hA1, hA2, hA3, hA4, hA5, hA6⟩; have HAA : Hid (Bp w g x sm qvs bm asc q1.cov2 ns M M p s x.lot wA) := Lib.hid ⟨x', sm', qvs', by rw [HCV.out]; exact HD9.out.trans hs, hA1.trans HK.out.2.1, hA2.trans HK.out.2.2.1, hA3.trans HK.out.2.2.2.1, hA4.trans HK.out.2.2.2.2.1, hA5.trans HK.out.2.2.2.2.2.1, by rw [HCV.out]; exact hA6⟩; clear hs hA1 hA2 hA3 hA4 hA5 hA6))
        go_meet
        exact HAA.out
    case rest =>
    obtain ⟨xA, smA, qvsA, hsA, hA1, hA2, hA3, hA4, hA5, hA6⟩ := hcut
    clear hgl
    obtain ⟨q2, hq2⟩ : ∃ q2, q1.cov2 = q2 := ⟨_, rfl⟩
    have hcv2 := HQB.out.cov2 hM4
    rw [hq2] at hsA hA6 hcv2
    have HQ2 := Lib.hid (And.intro hq2 hcv2)
    have e6 := hsA.bu.cbd.blk.cell 6
    have e14 := hsA.bu.cbd.blk.cell 14
    have hgl := hsA.bu.cbd.blk.lt
    simp only [up, Cb.cells] at e6 e14
    have HKA := Lib.hid (And.intro hsA (And.intro hA1 (And.intro hA2 (And.intro hA3 (And.intro hA4 (And.intro hA5 hA6))))))
    clear hsA hA1 hA2 hA3 hA4 hA5 hA6 hq2 hcv2
    go_upto_region 23 with fail
    go_still_tail 14, (by kernel_rfl)
    change wpList _ _ _ _ _ wc.drew
    have HD8 := Lib.hid (HKA.out.1.kept (gb_drewN wc 1))
    obtain ⟨w9, hw9⟩ : ∃ w9, wc.drew = w9 := ⟨_, rfl⟩
    have HD9 : Hid (Bs w g x sm qvs bm asc w9 xA smA q2 qvsA ns) := Lib.hid (by rw [← hw9]; exact HD8.out)
    rw [hw9]
    clear hw9 HD8 e6 e14 hgl
    have hnk2 : Nok ns (m + 1) := by have := HH.out.2.2.2.2.2.2.2.2.2.2.2.2.2.2.2.1; exact ⟨this.nd, by have := this.le; omega, this.ne⟩
    have HNK := Lib.hid hnk2
    clear hnk2
    go_upto_region 24 with (go_at_call 29; (refine (apm_any g xA smA q2 qvsA ns ns' bm asc M (m + 1) q2.gcol L cl s nm w9 HD9.out.bu HKA.out.2.2.2.2.2.2 HQ2.out.2.1 hM4 (by omega) HQ2.out.2.1.gcol0 (by have := HQ2.out.2.1.gcol1; omega) (by omega) (by omega) (by omega) (by omega) HH.out.2.2.2.2.2.2.2.2.2.2.2.2.2.1 HH.out.2.2.2.2.2.2.2.2.2.2.2.2.2.2.1 HNK.out).mono ?_; rintro e wB ⟨x', sm', qvs', rfl, hs, hB1, hB2, hB3, hB4, hB5, hB6⟩; have HBB2 : Hid (Bp w g x sm qvs bm asc (q2.app q2.gcol L cl nm) ns' M M p s x.lot wB) := Lib.hid ⟨x', sm', qvs', HD9.out.trans hs, hB1.trans HKA.out.2.1, hB2.trans HKA.out.2.2.1, hB3.trans HKA.out.2.2.2.1, hB4.trans HKA.out.2.2.2.2.1, hB5.trans HKA.out.2.2.2.2.2.1, hB6⟩; clear hs hB1 hB2 hB3 hB4 hB5 hB6))
    obtain ⟨xB, smB, qvsB, hsB, hB1, hB2, hB3, hB4, hB5, hB6⟩ := HBB2.out
    have e20 := hsB.bu.cbd.blk.cell 20
    have fr := hsB.bu.cbd.blk.free
    have hgl := hsB.bu.cbd.blk.lt
    simp only [up, Cb.cells] at e20
    have HKB := Lib.hid (And.intro hsB (And.intro hB1 (And.intro hB2 (And.intro hB3 (And.intro hB4 (And.intro hB5 hB6))))))
    clear hsB hB1 hB2 hB3 hB4 hB5 hB6
    go_wp2_with fail
    go_end0
    have hmq : ({ q2.app q2.gcol L cl nm with ls := true } : Pq) = (runQ T0 q T0.size).mapq ((T src p).length : Nat) ((U src p - U src (LS src p) : Nat) : Int) nm := by
      rw [HQ1.out, HCL.out.1, HCL.out.2, HQ2.out.2.2.2, ← HQ2.out.1]; rfl
    rw [← hmq]
    exact ⟨xB, smB, qvsB, rfl, HKB.out.1.trans (HKB.out.1.bu.put 20 (.bool true) (q' := { q2.app q2.gcol L cl nm with ls := true }) (by kernel_rfl) rfl rfl rfl rfl rfl rfl), HKB.out.2.1, HKB.out.2.2.1, HKB.out.2.2.2.1, HKB.out.2.2.2.2.1, HKB.out.2.2.2.2.2.1, HKB.out.2.2.2.2.2.2⟩
end Go.Proofs.YtfbeeekakfllpaaDoor
