/-
  The law's own chunk writer, walked. No statement of the seat is proved here.
-/
import Derived.Test.YtoegmcakolidbaaDoorNu
import Derived.Test.YtoegmcakolidbaaDoorBp
import Derived.Deep.MidRow
namespace Go.Proofs.YtoegmcakolidbaaDoor
open Go.RowKit
set_option linter.unusedVariables false
/-- the segments' block, the text so far, the world's frame -/
structure Bw (w : World) (sb : Nat) (v : Value) (xs C : List Int) (wr : World) : Prop where
  own : Own .u8 5 wr (sb + 1) v xs
  blk : Blk wr sb 55 (ints .i64 C)
  bel : Below w.heap.size w wr
  hsb : w.heap.size ≤ sb
theorem Bw.lt {w wr : World} {sb : Nat} {v : Value} {xs C : List Int} (h : Bw w sb v xs C wr) : sb + 1 ≤ wr.heap.size := h.blk.lt
theorem Bw.step {w wr w' : World} {sb : Nat} {v v' : Value} {xs ys C : List Int} (h : Bw w sb v xs C wr) (ho : Own .u8 5 w' (sb + 1) v' ys) (hg : Gr wr v w' v') : Bw w sb v' ys C w' := by
  have hl := h.lt
  have hs := h.hsb
  refine ⟨ho, h.blk.gb hg.1 (fun e => by have := (h.own.lt sb e.symm).1; omega), h.bel.grown hg.1 (by omega) (fun x hx => by have := (h.own.lt x hx).1; omega), hs⟩
theorem Bw.put {w wr : World} {sb : Nat} {v : Value} {xs C : List Int} (h : Bw w sb v xs C wr) (j : Nat) (z : Int) : Bw w sb v xs (C.set j z) (wr.setCell ⟨sb, j, none⟩ (.int .i64 z)) := by
  have hg : wr.grownBy (wr.setCell ⟨sb, j, none⟩ (.int .i64 z)) (some sb) := gb_set (gb_refl _ _) j none _
  have hs := h.hsb
  refine ⟨h.own.gb hg ?_, h.blk.put j z, h.bel.setCell (p := ⟨sb, j, none⟩) hs _, hs⟩
  rcases hx : v.ownBlock with _ | x
  · exact .inl rfl
  · exact .inr (fun e => by cases e; have := (h.own.lt _ hx).1; omega)
def IsBc (ds ks : List Int) (n : Nat) (w : World) (e : Ending) (w' : World) : Prop := ∃ (v : Value) (fn : Int) (sb : Nat), e = .returned (.tuple #[v, .int .i64 fn, .slice (some ⟨sb, 0, none⟩) n n]) ∧ FN (toks ds ks n) fn ∧ Bw w sb v (txg false (toks ds ks n)) (segC (toks ds ks n) n n) w'
/-- at the head of a round -/
def GB (ds ks : List Int) (n sb : Nat) (w : World) (k : Nat) (v9 v10 v11 v12 v13 v14 v15 v16 v17 : Value) (wr : World) : Prop :=
  ∃ (i : Nat) (fn : Int) (S : Ab), i ≤ n ∧ n - i ≤ k ∧ v17 = .int .i64 i ∧ v10 = .int .i64 fn ∧ absOf z0 (toks ds ks i) = S ∧ v11 = .int .i64 S.ln ∧ v12 = .int .i64 S.col ∧ v13 = .int .i64 S.src ∧ v14 = .int .i64 S.ol ∧ v15 = .int .i64 S.oc ∧ v16 = .int .i64 S.on ∧ FN (toks ds ks i) fn ∧ Bw w sb v9 (txg false (toks ds ks i)) (segC (toks ds ks i) n i) wr
/-- bounds of the sums -/
structure SBd (S : Ab) (i : Nat) : Prop where
  ln0 : 0 ≤ S.ln
  ln1 : S.ln ≤ i
  c0 : -4096 * (i : Int) ≤ S.col
  c1 : S.col ≤ 4096 * (i : Int)
  s0 : -4096 * (i : Int) ≤ S.src
  s1 : S.src ≤ 4096 * (i : Int)
  l0 : -4096 * (i : Int) ≤ S.ol
  l1 : S.ol ≤ 4096 * (i : Int)
  o0 : -4096 * (i : Int) ≤ S.oc
  o1 : S.oc ≤ 4096 * (i : Int)
  n0 : -4096 * (i : Int) ≤ S.on
  n1 : S.on ≤ 4096 * (i : Int)
def P12 (z : Int) : Prop := -4096 ≤ z ∧ z ≤ 4096
theorem nth_p12 (zs : List Int) (h : ∀ z ∈ zs, P12 z) (j : Nat) : P12 (nth zs j) := by
  rcases Nat.lt_or_ge j zs.length with hj | hj
  · exact h _ (nth_mem _ _ hj)
  · rw [nth_out _ _ hj]; unfold P12; omega
theorem sbd (ds ks : List Int) (h : ∀ k, P12 (nth ds k)) : ∀ i, SBd (absOf z0 (toks ds ks i)) i
  | 0 => by simp only [toks, absOf, z0]; constructor <;> simp
  | i + 1 => by
    have hq := sbd ds ks h i
    have hn := fun j => nth_p12 _ (nums_all (P := P12) ds ks i h) j
    have n0 := hn 0
    have n1 := hn 1
    have n2 := hn 2
    have n3 := hn 3
    have n4 := hn 4
    unfold P12 at n0 n1 n2 n3 n4
    obtain ⟨a1, a2, a3, a4, a5, a6, a7, a8, a9, a10, a11, a12⟩ := hq
    rw [toks, absOf_app]
    split
    · show SBd ((absOf z0 (toks ds ks i)).nl.seg (nums ds ks i)) (i + 1)
      constructor <;> simp only [Ab.nl, Ab.seg] <;> omega
    · show SBd ((absOf z0 (toks ds ks i)).seg (nums ds ks i)) (i + 1)
      constructor <;> simp only [Ab.seg] <;> omega
/-- behind the separator: lp the tokens with the break -/
def GS (ds ks : List Int) (n sb i : Nat) (fn : Int) (w : World) (v9 v11 v12 : Value) (wx : World) : Prop :=
  ∃ (lp pre : List Tg) (S : Ab), lp = toks ds ks i ++ pre ∧ (pre = [] ∨ pre = [.nl]) ∧ toks ds ks (i + 1) = lp ++ [.seg (nums ds ks i)] ∧ absOf z0 lp = S ∧ v11 = .int .i64 S.ln ∧ v12 = .int .i64 S.col ∧ S.src = (absOf z0 (toks ds ks i)).src ∧ S.ol = (absOf z0 (toks ds ks i)).ol ∧ S.oc = (absOf z0 (toks ds ks i)).oc ∧ S.on = (absOf z0 (toks ds ks i)).on ∧ FN lp fn ∧ Bw w sb v9 (pfx lp) (segC (toks ds ks i) n i) wx
theorem gs_brk (ds ks : List Int) (n sb i : Nat) (fn : Int) (w : World) (v9 : Value) (wx : World) (hb : brB ks i = true) (hf : FN (toks ds ks i) fn) (h : Bw w sb v9 (txg false (toks ds ks i) ++ [59]) (segC (toks ds ks i) n i) wx) :
    GS ds ks n sb i fn w v9 (.int .i64 ((absOf z0 (toks ds ks i)).ln + 1)) (.int .i64 0) wx := by
  refine ⟨toks ds ks i ++ [.nl], [.nl], _, rfl, .inr rfl, by rw [toks, hb]; simp, rfl, ?_, ?_, ?_, ?_, ?_, ?_, fn_nl _ _ hf, ?_⟩
  all_goals try (rw [absOf_app]; rfl)
  have : pfx (toks ds ks i ++ [.nl]) = txg false (toks ds ks i) ++ [59] := by
    rw [pfx, txg_app, lsg_app]; simp [txg, lsg, Tg.isSeg]
  rw [this]; exact h
theorem gs_no (ds ks : List Int) (n sb i : Nat) (fn : Int) (w : World) (v9 : Value) (wx : World) (hb : brB ks i = false) (hf : FN (toks ds ks i) fn) (h : Bw w sb v9 (txg false (toks ds ks i) ++ (if 0 < i then [44] else [])) (segC (toks ds ks i) n i) wx) :
    GS ds ks n sb i fn w v9 (.int .i64 (absOf z0 (toks ds ks i)).ln) (.int .i64 (absOf z0 (toks ds ks i)).col) wx := by
  refine ⟨toks ds ks i, [], _, (List.append_nil _).symm, .inl rfl, by rw [toks, hb]; simp, rfl, rfl, rfl, rfl, rfl, rfl, rfl, hf, ?_⟩
  have : pfx (toks ds ks i) = txg false (toks ds ks i) ++ (if 0 < i then [44] else []) := by
    rw [pfx, toks_last]; simp
  rw [this]; exact h
theorem info55 : (Tryd.prog.info? 55).map (fun i => (i.zero, i.size, i.bytes)) = some (some (.agg (ints .i64 (List.replicate 7 0))), 7, 56) := by kernel_rfl
theorem gb_next (ds ks : List Int) (n sb i : Nat) (fn fn' : Int) (w : World) (v9' : Value) (wy : World) (lp pre : List Tg) (S : Ab) (hi : i < n) (h1 : lp = toks ds ks i ++ pre) (h2 : pre = [] ∨ pre = [.nl]) (h3 : toks ds ks (i + 1) = lp ++ [.seg (nums ds ks i)]) (h4 : absOf z0 lp = S) (zs : List Int) (hz : nums ds ks i = zs) (hf : FN (lp ++ [.seg zs]) fn')
    (C : List Int) (hC : C = (((((((segC (toks ds ks i) n i).set (7 * i) (S.seg zs).ln).set (7 * i + 1) (S.seg zs).col).set (7 * i + 2) zs.length).set (7 * i + 3) (S.seg zs).src).set (7 * i + 4) (S.seg zs).ol).set (7 * i + 5) (S.seg zs).oc).set (7 * i + 6) (S.seg zs).on)
    (h : Bw w sb v9' (pfx lp ++ encL zs) C wy) :
    GB ds ks n sb w (n - (i + 1)) v9' (.int .i64 fn') (.int .i64 (S.seg zs).ln) (.int .i64 (S.seg zs).col) (.int .i64 (S.seg zs).src) (.int .i64 (S.seg zs).ol) (.int .i64 (S.seg zs).oc) (.int .i64 (S.seg zs).on) (.int .i64 (i + 1 : Nat)) wy := by
  have ht : toks ds ks (i + 1) = lp ++ [.seg zs] := by rw [h3, hz]
  refine ⟨i + 1, fn', S.seg zs, hi, Nat.le_refl _, rfl, rfl, ?_, rfl, rfl, rfl, rfl, rfl, rfl, by rw [ht]; exact hf, ?_⟩
  · rw [ht, absOf_app, h4]; rfl
  · rw [ht, txg_pfx]
    have hs := segC_step (toks ds ks i) pre zs n i hi (by rw [nsg_app, toks_nsg]; rcases h2 with rfl | rfl <;> rfl) (by rcases h2 with rfl | rfl <;> rfl) (S.seg zs) (by rw [← h1, h4])
    rw [← h1] at hs
    rw [← hs, ← hC]; exact h
theorem bw_seven {w wr : World} {sb : Nat} {v : Value} {xs C : List Int} (h : Bw w sb v xs C wr) (m : Nat) (a b c d e f g : Int) :
    Bw w sb v xs (((((((C.set m a).set (m + 1) b).set (m + 2) c).set (m + 3) d).set (m + 4) e).set (m + 5) f).set (m + 6) g) (wr.setCells sb m [.int .i64 a, .int .i64 b, .int .i64 c, .int .i64 d, .int .i64 e, .int .i64 f, .int .i64 g]) := by
  have := ((((((h.put m a).put (m + 1) b).put (m + 2) c).put (m + 3) d).put (m + 4) e).put (m + 5) f).put (m + 6) g
  simpa only [World.setCells] using this
theorem absOf_nl_bd {ds ks : List Int} {i : Nat} {lp pre : List Tg} (T S : Ab) (h1 : lp = toks ds ks i ++ pre) (h2 : pre = [] ∨ pre = [.nl]) (h3 : absOf z0 lp = T) (h4 : absOf z0 (toks ds ks i) = S) (hp : ∀ k, P12 (nth ds k)) : SBd T (i + 1) := by
  have hq := sbd ds ks hp i
  rw [h4] at hq
  obtain ⟨a1, a2, a3, a4, a5, a6, a7, a8, a9, a10, a11, a12⟩ := hq
  rcases h2 with rfl | rfl
  · rw [h1, List.append_nil, h4] at h3
    subst h3
    constructor <;> omega
  · rw [h1, absOf_app, h4] at h3
    subst h3
    show SBd S.nl (i + 1)
    constructor <;> simp only [Ab.nl] <;> omega
theorem bw_there {w wr : World} {sb n i : Nat} {v : Value} {xs C : List Int} (h : Bw w sb v xs C wr) (hC : C.length = 7 * n) (hi : i < n) : wr.there sb (7 * i) 7 := fun j hj =>
  ⟨by rw [h.blk.cell, Array.getElem?_eq_getElem (by rw [ints_size]; omega)]; rfl, h.blk.free _⟩
theorem segC_len (ds ks : List Int) (n i : Nat) (hi : i ≤ n) : (segC (toks ds ks i) n i).length = 7 * n := by
  unfold segC; rw [List.length_append, recs_flat, toks_nsg, List.length_replicate]; omega
theorem ab_seg1 (T : Ab) (g : Int) : T.seg [g] = ⟨T.ln, T.col + g, T.src, T.ol, T.oc, T.on⟩ := by simp [Ab.seg, nth]
theorem ab_seg4 (T : Ab) (g a b c : Int) : T.seg [g, a, b, c] = ⟨T.ln, T.col + g, T.src + a, T.ol + b, T.oc + c, T.on⟩ := by simp [Ab.seg, nth]
theorem ab_seg5 (T : Ab) (g a b c e : Int) : T.seg [g, a, b, c, e] = ⟨T.ln, T.col + g, T.src + a, T.ol + b, T.oc + c, T.on + e⟩ := by simp [Ab.seg, nth]
theorem all7 (a b c d e f g : Int) : (#[Value.int .i64 a, .int .i64 b, .int .i64 c, .int .i64 d, .int .i64 e, .int .i64 f, .int .i64 g]).all (·.oneCell') = true := by simp [Value.oneCell']
/-- a segment's record is stored -/
theorem step_seg7 {ops : Array Oper} {rest : List Oper} {o : Oper} {a : Act} {Q : Exit → Act → World → Prop} {w wr : World} {sb n i : Nat} {v : Value} {xs C : List Int} (hgd : o.guard = none) (x y : Operand) (ho : o.op = .store 55 x y) (H : Bw w sb v xs C wr) (hC : C.length = 7 * n) (hi : i < n)
    (m : Nat) (s0 s1 s2 s3 s4 s5 s6 : Int) (hx : a.eval x = .pointer (some ⟨sb, m, none⟩)) (hy : a.eval y = .agg #[.int .i64 s0, .int .i64 s1, .int .i64 s2, .int .i64 s3, .int .i64 s4, .int .i64 s5, .int .i64 s6]) (hm : m = 7 * i)
    (h : ∀ w', Bw w sb v xs (((((((C.set (7 * i) s0).set (7 * i + 1) s1).set (7 * i + 2) s2).set (7 * i + 3) s3).set (7 * i + 4) s4).set (7 * i + 5) s5).set (7 * i + 6) s6) w' → wpList Tryd.prog ops Q rest (a.put o.dst undef) w') : wpList Tryd.prog ops Q (o :: rest) a wr := by
  subst hm
  exact wpList_store_mid hgd 55 x y ho sb (7 * i) _ hx hy (bw_there H hC hi) (by kernel_rfl) (all7 _ _ _ _ _ _ _) (h _ (bw_seven H (7 * i) s0 s1 s2 s3 s4 s5 s6))
theorem p12_bnd {z : Int} (h : P12 z) : Bnd z := by obtain ⟨h1, h2⟩ := h; unfold Bnd; omega
set_option maxRecDepth 100000 in
set_option maxHeartbeats 8000000 in
theorem bc_any (aod aok : Option Addr) (capd capk : Nat) (ds ks : List Int) (w : World) (hd : In .i32 w aod ds) (hk : In .u8 w aok ks) (dl kl n : Nat) (hdl : ds.length = dl) (hkl : ks.length = kl) (hn : dl / 5 = n) (h1 : dl ≤ 20480) (h2 : kl ≤ 65536) (hp : ∀ z ∈ ds, P12 z) :
    Calls Tryd.prog 9 #[.slice aod dl capd, .slice aok kl capk] w (IsBc ds ks n w) := by
  have HI := Lib.hid (And.intro hd (And.intro hk (And.intro hdl (And.intro hkl (nth_p12 ds hp)))))
  have hnb : n ≤ 4096 := by omega
  have hn5 : 5 * n ≤ dl := by omega
  have hni : (dl : Int) / 5 = (n : Int) := by omega
  clear hd hk hdl hkl hp
  go_enter Tryd.func9, Tryd.ntmps9
  go_wp2_with (at_make; refine wpList_make_flat _ rfl _ _ 31 rfl 55 .i64 7 56 (by decide) Tryd.underlying31 info55 n rfl rfl (by omega) (by unfold maxLen; omega) ?_; intro w1 hb hgr; have HM := Lib.hid (And.intro hb hgr); clear hb hgr)
  have HST : Hid (GB ds ks n w.heap.size w n (.slice none 0 0) (.int .i64 (-1)) (.int .i64 0) (.int .i64 0) (.int .i64 0) (.int .i64 0) (.int .i64 0) (.int .i64 0) (.int .i64 0) w1) := Lib.hid (by
    obtain ⟨hb, hgr⟩ := HM.out
    refine ⟨0, -1, z0, Nat.zero_le _, Nat.le_refl _, rfl, rfl, rfl, rfl, rfl, rfl, rfl, rfl, rfl, .inl ⟨rfl, fun zs hz => by simp [toks] at hz⟩, Own.nil _ _ _ _, ?_, (Below.refl _ w).grown hgr (Nat.le_refl _) (fun k h => by cases h), Nat.le_refl _⟩
    show Blk w1 w.heap.size 55 (ints .i64 ([] ++ List.replicate (7 * (n - 0)) 0))
    rw [List.nil_append, Nat.sub_zero, Nat.mul_comm]; exact hb)
  obtain ⟨sb, hsb⟩ : ∃ sb, w.heap.size = sb := ⟨_, rfl⟩
  have HSB := Lib.hid hsb
  rw [hsb] at HST ⊢
  clear hsb HM
  go_loopg [9, 10, 11, 12, 13, 14, 15, 16, 17] n (fun k a b c d e f g h i wr => GB ds ks n sb w k a b c d e f g h i wr)
  case atStart => exact HST.out
  case round =>
    obtain ⟨i, fn, S, hi, hgk, rfl, rfl, hS, rfl, rfl, rfl, rfl, rfl, rfl, hfn, hB⟩ := hrel
    rcases (show i = n ∨ i < n by omega) with rfl | hlt
    · have HB := Lib.hid (And.intro hfn hB)
      clear hfn hB hS
      go_wp2_with fail
      go_ret3
      exact ⟨_, _, _, rfl, HB.out.1, HB.out.2⟩
    · have hq := sbd ds ks HI.out.2.2.2.2 i
      rw [hS] at hq
      obtain ⟨a1, a2, a3, a4, a5, a6, a7, a8, a9, a10, a11, a12⟩ := hq
      have hbl := hB.lt
      have hxl : (txg false (toks ds ks i)).length + 1 ≤ 1000000 := by
        have := txg_len (toks ds ks i) false (toks_ws ds ks i)
        have := toks_len ds ks i
        omega
      have HB := Lib.hid (And.intro hS (And.intro hfn hB))
      obtain ⟨kk, hkk⟩ : ∃ kk, kd ks i = kk := ⟨_, rfl⟩
      have HKK : Hid ((i < kl → ∃ b off, aok = some ⟨b, off, none⟩ ∧ wr.cell? ⟨b, off + i, none⟩ = some (.int .u8 kk)) ∧ (kl ≤ i → kk = 0)) := Lib.hid ⟨fun h => by
        obtain ⟨b, off, e, hbb, hc⟩ := HI.out.2.1.at (i := i) (by rw [HI.out.2.2.2.1]; exact h)
        refine ⟨b, off, e, (hB.bel.cell (p := ⟨b, off + i, none⟩) hbb).trans ?_⟩
        rw [hc, ← hkk, kd, if_pos (by rw [HI.out.2.2.2.1]; exact h)], fun h => by rw [← hkk, kd, if_neg (by rw [HI.out.2.2.2.1]; omega)]⟩
      have HK2 := Lib.hid hkk
      clear hfn hB hkk hS
      go_upto_if 40 with fail
      go_cut [18] (fun x wx => x = .int .u8 kk ∧ wx = wr)
      case first =>
        rcases Nat.lt_or_ge i kl with hik | hik
        · obtain ⟨b, off, rfl, hc⟩ := HKK.out.1 hik
          go_wp2_with fail
          go_meet
          exact ⟨rfl, rfl⟩
        · have hk0 := HKK.out.2 hik
          subst hk0
          have hik' : decide (i < kl) = false := decide_eq_false (by omega)
          go_wp2_with fail
          go_meet
          exact ⟨rfl, rfl⟩
      case rest =>
      obtain ⟨rfl, hwc⟩ := hcut
      have hwc1 := hwc.symm
      subst hwc1
      clear hwc
      obtain ⟨x1, hx1⟩ : ∃ x, bits .and .u8 kk 1 = x := ⟨_, rfl⟩
      obtain ⟨x2, hx2⟩ : ∃ x, bits .and .u8 kk 2 = x := ⟨_, rfl⟩
      obtain ⟨x4, hx4⟩ : ∃ x, bits .and .u8 kk 4 = x := ⟨_, rfl⟩
      have HBR : Hid (brB ks i = !(x1 == 0)) := Lib.hid (by rw [brB, HK2.out, hx1])
      have HSR : Hid (srcB ks i = ((i == 0) || (x4 == 0))) := Lib.hid (by rw [srcB, HK2.out, hx4])
      have HNM : Hid (nameB ks i = (srcB ks i && !(x2 == 0))) := Lib.hid (by rw [nameB, HK2.out, hx2])
      have HBD : Hid ((txg false (toks ds ks i)).length + 1 ≤ maxLen ∧ ((txg false (toks ds ks i)).length + 1) * 1 ≤ 140737488355328) := Lib.hid (by unfold maxLen; omega)
      go_upto_if 47 with fail
      go_cut [9, 11, 12] (fun x y z wx => GS ds ks n sb i fn w x y z wx)
      case first =>
        by_cases h0 : x1 = 0
        · subst h0
          rcases Nat.eq_zero_or_pos i with hi0 | hi0
          · subst hi0
            go_wp2_with fail
            go_meet
            rw [← HB.out.1]
            refine gs_no ds ks n sb 0 fn w _ wr (by rw [HBR.out]; rfl) HB.out.2.1 ?_
            have := HB.out.2.2
            simpa using this
          · have hi0' : decide (0 < i) = true := decide_eq_true hi0
            go_wp2_with (at_builtin; refine wpList_push wr rfl (.tmp 55) (.tmp 56) 22 rfl (sb + 1) 5 .u8 1 Tryd.underlying22 copyB_info u9 (txg false (toks ds ks i)) _ rfl HB.out.2.2.own rfl HBD.out.1 HBD.out.2 hbl ?_; intro v' w1 ho1 hg1 hn1; have H1 := Lib.hid (HB.out.2.2.step ho1 hg1); clear ho1 hg1 hn1)
            go_meet
            rw [← HB.out.1]
            exact gs_no ds ks n sb i fn w _ w1 (by rw [HBR.out]; rfl) HB.out.2.1 (by rw [if_pos hi0]; exact H1.out)
        · have b1 : (x1 == 0) = false := beq_eq_false_iff_ne.2 h0
          have b2 : (x1 != 0) = true := bne_iff_ne.2 h0
          clear h0
          go_wp2_with (at_builtin; refine wpList_push wr rfl (.tmp 48) (.tmp 49) 22 rfl (sb + 1) 5 .u8 1 Tryd.underlying22 copyB_info u9 (txg false (toks ds ks i)) _ rfl HB.out.2.2.own rfl HBD.out.1 HBD.out.2 hbl ?_; intro v' w1 ho1 hg1 hn1; have H1 := Lib.hid (HB.out.2.2.step ho1 hg1); clear ho1 hg1 hn1)
          go_meet
          rw [← HB.out.1]
          exact gs_brk ds ks n sb i fn w _ w1 (by rw [HBR.out, b1]; rfl) HB.out.2.1 H1.out
      case rest =>
      obtain ⟨lp, pre, T, hlp, hpre, htk, hT, rfl, rfl, e1, e2, e3, e4, hfl, hBp⟩ := hcut
      rw [HB.out.1] at e1 e2 e3 e4
      rw [← e1, ← e2, ← e3, ← e4]
      have hTb := absOf_nl_bd T S hlp hpre hT HB.out.1 HI.out.2.2.2.2
      have HG := Lib.hid (And.intro hlp (And.intro hpre (And.intro htk (And.intro hT (And.intro hfl hBp)))))
      have hpl : (pfx lp).length ≤ 1000002 := by
        rw [pfx, hlp, txg_app]
        rcases hpre with rfl | rfl
        · simp [txg]; split <;> simp <;> omega
        · simp [txg]; split <;> simp <;> omega
      have hbl2 := hBp.lt
      obtain ⟨m0, hm0⟩ : ∃ m0, 5 * i = m0 := ⟨_, rfl⟩
      have hm0i : 5 * (i : Int) = (m0 : Int) := by omega
      have hm0l : m0 + 4 < dl := by omega
      have HDD : Hid (∀ wx, Below w.heap.size w wx → ∀ j, j < dl → ∃ b off, aod = some ⟨b, off, none⟩ ∧ wx.cell? ⟨b, off + j, none⟩ = some (.int .i32 (nth ds j))) := Lib.hid (fun wx hb j hj => by
        obtain ⟨b, off, e, hbb, hc⟩ := HI.out.1.at (i := j) (by rw [HI.out.2.2.1]; exact hj)
        exact ⟨b, off, e, (hb.cell (p := ⟨b, off + j, none⟩) hbb).trans hc⟩)
      clear e1 e2 e3 e4 hlp hpre htk hT hfl hBp a1 a2 a3 a4 a5 a6 a7 a8 a9 a10 a11 a12
      obtain ⟨a1, a2, a3, a4, a5, a6, a7, a8, a9, a10, a11, a12⟩ := hTb
      obtain ⟨wz, rfl⟩ : ∃ wz : World, wz = wc := ⟨_, rfl⟩
      go_upto_region 23 with fail
      go_cut [19] (fun x wx => x = .bool (srcB ks i) ∧ wx = wz)
      case first =>
        rcases Nat.eq_zero_or_pos i with hi0 | hi0
        · subst hi0
          go_wp2_with fail
          go_meet
          exact ⟨by rw [HSR.out]; rfl, rfl⟩
        · have hi0' : ((i : Int) == 0) = false := beq_eq_false_iff_ne.2 (by omega)
          have hi1 : (i == 0) = false := beq_eq_false_iff_ne.2 (by omega)
          by_cases h4 : x4 = 0
          · subst h4
            go_wp2_with fail
            go_meet
            exact ⟨by rw [HSR.out, hi1]; rfl, rfl⟩
          · have b1 : (x4 == 0) = false := beq_eq_false_iff_ne.2 h4
            clear h4
            go_wp2_with fail
            go_meet
            exact ⟨by rw [HSR.out, hi1, b1]; rfl, rfl⟩
      case rest =>
      obtain ⟨rfl, hwc⟩ := hcut
      subst hwc
      clear hx4
      obtain ⟨wz, rfl⟩ : ∃ wz : World, wz = wc := ⟨_, rfl⟩
      obtain ⟨bs, hbs⟩ : ∃ bs, srcB ks i = bs := ⟨_, rfl⟩
      rw [hbs] at HNM ⊢
      go_upto_region 24 with fail
      go_cut [20] (fun x wx => x = .bool (nameB ks i) ∧ wx = wz)
      case first =>
        cases bs
        · go_wp2_with fail
          go_meet
          exact ⟨by rw [HNM.out]; rfl, rfl⟩
        · by_cases h2 : x2 = 0
          · subst h2
            go_wp2_with fail
            go_meet
            exact ⟨by rw [HNM.out]; rfl, rfl⟩
          · have b1 : (x2 == 0) = false := beq_eq_false_iff_ne.2 h2
            have b2 : (x2 != 0) = true := bne_iff_ne.2 h2
            clear h2
            go_wp2_with fail
            go_meet
            exact ⟨by rw [HNM.out, b1]; rfl, rfl⟩
      case rest =>
      obtain ⟨rfl, hwc⟩ := hcut
      subst hwc
      clear hx2 hx1
      obtain ⟨wz, rfl⟩ : ∃ wz : World, wz = wc := ⟨_, rfl⟩
      obtain ⟨bn, hbn⟩ : ∃ bn, nameB ks i = bn := ⟨_, rfl⟩
      rw [hbn] at HNM ⊢
      obtain ⟨m1, hm1⟩ : ∃ m1, m0 + 1 = m1 := ⟨_, rfl⟩
      obtain ⟨m2, hm2⟩ : ∃ m2, m0 + 2 = m2 := ⟨_, rfl⟩
      obtain ⟨m3, hm3⟩ : ∃ m3, m0 + 3 = m3 := ⟨_, rfl⟩
      obtain ⟨m4, hm4⟩ : ∃ m4, m0 + 4 = m4 := ⟨_, rfl⟩
      have hm1i : (m0 : Int) + 1 = (m1 : Int) := by omega
      have hm2i : (m0 : Int) + 2 = (m2 : Int) := by omega
      have hm3i : (m0 : Int) + 3 = (m3 : Int) := by omega
      have hm4i : (m0 : Int) + 4 = (m4 : Int) := by omega
      obtain ⟨g, hg0⟩ : ∃ g, nth ds m0 = g := ⟨_, rfl⟩
      obtain ⟨a, ha0⟩ : ∃ a, nth ds m1 = a := ⟨_, rfl⟩
      obtain ⟨b', hb0⟩ : ∃ b', nth ds m2 = b' := ⟨_, rfl⟩
      obtain ⟨c, hc0⟩ : ∃ c, nth ds m3 = c := ⟨_, rfl⟩
      obtain ⟨e, he0⟩ : ∃ e, nth ds m4 = e := ⟨_, rfl⟩
      have HNU : Hid (nums ds ks i = if bs then (if bn then [g, a, b', c, e] else [g, a, b', c]) else [g]) := Lib.hid (by rw [nums, hbs, hbn, hm0, hm1, hm2, hm3, hm4, hg0, ha0, hb0, hc0, he0])
      have HBN : Hid (Bnd g ∧ Bnd a ∧ Bnd b' ∧ Bnd c ∧ Bnd e) := Lib.hid ⟨hg0 ▸ p12_bnd (HI.out.2.2.2.2 m0), ha0 ▸ p12_bnd (HI.out.2.2.2.2 m1), hb0 ▸ p12_bnd (HI.out.2.2.2.2 m2), hc0 ▸ p12_bnd (HI.out.2.2.2.2 m3), he0 ▸ p12_bnd (HI.out.2.2.2.2 m4)⟩
      obtain ⟨q0, q0'⟩ : -4096 ≤ g ∧ g ≤ 4096 := hg0 ▸ HI.out.2.2.2.2 m0
      obtain ⟨q1, q1'⟩ : -4096 ≤ a ∧ a ≤ 4096 := ha0 ▸ HI.out.2.2.2.2 m1
      obtain ⟨q2, q2'⟩ : -4096 ≤ b' ∧ b' ≤ 4096 := hb0 ▸ HI.out.2.2.2.2 m2
      obtain ⟨q3, q3'⟩ : -4096 ≤ c ∧ c ≤ 4096 := hc0 ▸ HI.out.2.2.2.2 m3
      obtain ⟨q4, q4'⟩ : -4096 ≤ e ∧ e ≤ 4096 := he0 ▸ HI.out.2.2.2.2 m4
      have HD5 : Hid (∀ wx, Below w.heap.size w wx → ∃ b off, aod = some ⟨b, off, none⟩ ∧ wx.cell? ⟨b, off + m0, none⟩ = some (.int .i32 g) ∧ wx.cell? ⟨b, off + m1, none⟩ = some (.int .i32 a) ∧ wx.cell? ⟨b, off + m2, none⟩ = some (.int .i32 b') ∧ wx.cell? ⟨b, off + m3, none⟩ = some (.int .i32 c) ∧ wx.cell? ⟨b, off + m4, none⟩ = some (.int .i32 e)) := Lib.hid (fun wx hb => by
        obtain ⟨b, off, rfl, k0⟩ := HDD.out wx hb m0 (by omega)
        obtain ⟨_, _, h1, k1⟩ := HDD.out wx hb m1 (by omega)
        cases h1
        obtain ⟨_, _, h1, k2⟩ := HDD.out wx hb m2 (by omega)
        cases h1
        obtain ⟨_, _, h1, k3⟩ := HDD.out wx hb m3 (by omega)
        cases h1
        obtain ⟨_, _, h1, k4⟩ := HDD.out wx hb m4 (by omega)
        cases h1
        rw [hg0] at k0
        rw [ha0] at k1
        rw [hb0] at k2
        rw [hc0] at k3
        rw [he0] at k4
        exact ⟨b, off, rfl, k0, k1, k2, k3, k4⟩)
      have hib : (i : Int) ≤ 4096 := by omega
      have HLN := Lib.hid (segC_len ds ks n i (by omega))
      have HG' := Lib.hid HG.out.2.2.2.2.2
      have hll : m1 < dl ∧ m2 < dl ∧ m3 < dl ∧ m4 < dl ∧ m0 < dl := by omega
      obtain ⟨hl1, hl2, hl3, hl4, hl0⟩ := hll
      clear hg0 ha0 hb0 hc0 he0 hm1 hm2 hm3 hm4 hbs hbn
      obtain ⟨db, doff, rfl, k0, k1, k2, k3, k4⟩ := HD5.out wz HG'.out.bel
      have hX1 : (pfx lp ++ enc g).length ≤ 1000009 := by rw [List.length_append]; have := (enc_len g).2; omega
      go_upto_region 27 with (go_at_call 17; (refine (ze_any (sb + 1) u9 (pfx lp) g wz hbl2 HG'.out.own HBN.out.1 (by omega)).mono ?_; rintro en w1 ⟨v1, rfl, ho1, hg1, hn1⟩; have H1 := Lib.hid (HG'.out.step ho1 hg1); clear ho1 hg1 hn1))
      clear k0 k1 k2 k3 k4
      have hz1 := H1.out.lt
      cases bs
      · have hsg := ab_seg1 T g
        go_upto_region 47 with fail
        go_wp2_with (refine step_seg7 rfl (.tmp 151) (.tmp 150) rfl H1.out HLN.out hlt _ _ _ _ _ _ _ _ rfl rfl (by omega) ?_; intro w9 h7; have H7 := Lib.hid h7; clear h7)
        go_roundg (n - (i + 1))
        case measure => exact Nat.lt_of_lt_of_le (by omega) hgk
        case rel =>
          have hgn := gb_next ds ks n sb i fn fn w _ _ lp pre T hlt HG.out.1 HG.out.2.1 HG.out.2.2.1 HG.out.2.2.2.1 [g] HNU.out (fn_seg lp fn [g] HG.out.2.2.2.2.1 (by simp)) _ rfl (by rw [hsg, encL_one]; exact H7.out)
          rw [hsg] at hgn
          exact hgn
      · have hX2 : ((pfx lp ++ enc g) ++ enc a).length ≤ 1000016 := by rw [List.length_append]; have := (enc_len a).2; omega
        have hX3 : (((pfx lp ++ enc g) ++ enc a) ++ enc b').length ≤ 1000023 := by rw [List.length_append]; have := (enc_len b').2; omega
        have hX4 : ((((pfx lp ++ enc g) ++ enc a) ++ enc b') ++ enc c).length ≤ 1000030 := by rw [List.length_append]; have := (enc_len c).2; omega
        obtain ⟨_, _, hdd, k0, k1, k2, k3, k4⟩ := HD5.out w1 H1.out.bel
        cases hdd
        go_upto_region 33 with fail
        clear k0 k1 k2 k3 k4
        go_upto_region 34 with (go_at_call 17; (refine (ze_any (sb + 1) v1 (pfx lp ++ enc g) a w1 (by have := H1.out.lt; omega) H1.out.own HBN.out.2.1 (by omega)).mono ?_; rintro en w2 ⟨v2, rfl, ho1, hg1, hn1⟩; have H2 := Lib.hid (H1.out.step ho1 hg1); clear ho1 hg1 hn1))
        go_upto_region 35 with (go_at_call 17; (refine (ze_any (sb + 1) v2 ((pfx lp ++ enc g) ++ enc a) b' w2 (by have := H2.out.lt; omega) H2.out.own HBN.out.2.2.1 (by omega)).mono ?_; rintro en w3 ⟨v3, rfl, ho1, hg1, hn1⟩; have H3 := Lib.hid (H2.out.step ho1 hg1); clear ho1 hg1 hn1))
        go_upto_region 36 with (go_at_call 17; (refine (ze_any (sb + 1) v3 (((pfx lp ++ enc g) ++ enc a) ++ enc b') c w3 (by have := H3.out.lt; omega) H3.out.own HBN.out.2.2.2.1 (by omega)).mono ?_; rintro en w4 ⟨v4, rfl, ho1, hg1, hn1⟩; have H4 := Lib.hid (H3.out.step ho1 hg1); clear ho1 hg1 hn1))
        have hz4 := H4.out.lt
        cases bn
        · have hsg := ab_seg4 T g a b' c
          have HE : Hid (pfx lp ++ encL [g, a, b', c] = ((((pfx lp ++ enc g) ++ enc a) ++ enc b') ++ enc c)) := Lib.hid (by simp [encL])
          go_upto_region 47 with fail
          go_wp2_with (refine step_seg7 rfl (.tmp 151) (.tmp 150) rfl H4.out HLN.out hlt _ _ _ _ _ _ _ _ rfl rfl (by omega) ?_; intro w9 h7; have H7 := Lib.hid h7; clear h7)
          go_roundg (n - (i + 1))
          case measure => exact Nat.lt_of_lt_of_le (by omega) hgk
          case rel =>
            have hgn := gb_next ds ks n sb i fn fn w _ _ lp pre T hlt HG.out.1 HG.out.2.1 HG.out.2.2.1 HG.out.2.2.2.1 [g, a, b', c] HNU.out (fn_seg lp fn _ HG.out.2.2.2.2.1 (by simp)) _ rfl (by rw [hsg, HE.out]; exact H7.out)
            rw [hsg] at hgn
            exact hgn
        · obtain ⟨ao4, cap4, hv4, _⟩ := H4.out.own.form
          subst hv4
          have hsg := ab_seg5 T g a b' c e
          have HE : Hid (pfx lp ++ encL [g, a, b', c, e] = (((((pfx lp ++ enc g) ++ enc a) ++ enc b') ++ enc c) ++ enc e)) := Lib.hid (by simp [encL])
          have HE4 : Hid (txg false (lp ++ [.seg [g, a, b', c]]) = ((((pfx lp ++ enc g) ++ enc a) ++ enc b') ++ enc c)) := Lib.hid (by rw [txg_pfx]; simp [encL])
          obtain ⟨L4, hL4⟩ : ∃ L4, ((((pfx lp ++ enc g) ++ enc a) ++ enc b') ++ enc c).length = L4 := ⟨_, rfl⟩
          have H4' : Hid (Bw w sb (.slice ao4 L4 cap4) ((((pfx lp ++ enc g) ++ enc a) ++ enc b') ++ enc c) (segC (toks ds ks i) n i) w4) := Lib.hid (by rw [← hL4]; exact H4.out)
          have HL4 := Lib.hid hL4
          rw [hL4] at hX4 ⊢
          clear hL4
          obtain ⟨_, _, hdd, k0, k1, k2, k3, k4⟩ := HD5.out w4 H4.out.bel
          cases hdd
          rcases fn_form lp fn HG.out.2.2.2.2.1 with rfl | ⟨fm, rfl⟩
          · go_upto_region 45 with (go_at_call 17; (refine (ze_any (sb + 1) (.slice ao4 L4 cap4) ((((pfx lp ++ enc g) ++ enc a) ++ enc b') ++ enc c) e w4 (by omega) H4'.out.own HBN.out.2.2.2.2 (by rw [HL4.out]; omega)).mono ?_; rintro en w5 ⟨v5, rfl, ho1, hg1, hn1⟩; have H5 := Lib.hid (H4'.out.step ho1 hg1); clear ho1 hg1 hn1))
            clear k0 k1 k2 k3 k4
            go_upto_region 47 with fail
            go_wp2_with (refine step_seg7 rfl (.tmp 151) (.tmp 150) rfl H5.out HLN.out hlt _ _ _ _ _ _ _ _ rfl rfl (by omega) ?_; intro w9 h7; have H7 := Lib.hid h7; clear h7)
            go_roundg (n - (i + 1))
            case measure => exact Nat.lt_of_lt_of_le (by omega) hgk
            case rel =>
              have hgn := gb_next ds ks n sb i (-1) (L4 : Nat) w _ _ lp pre T hlt HG.out.1 HG.out.2.1 HG.out.2.2.1 HG.out.2.2.2.1 [g, a, b', c, e] HNU.out (by have := fn_new lp g a b' c e HG.out.2.2.2.2.1; rwa [HE4.out, HL4.out] at this) _ rfl (by rw [hsg, HE.out]; exact H7.out)
              rw [hsg] at hgn
              exact hgn
          · have hfm : decide ((fm : Int) < 0) = false := decide_eq_false (by omega)
            go_upto_region 45 with (go_at_call 17; (refine (ze_any (sb + 1) (.slice ao4 L4 cap4) ((((pfx lp ++ enc g) ++ enc a) ++ enc b') ++ enc c) e w4 (by omega) H4'.out.own HBN.out.2.2.2.2 (by rw [HL4.out]; omega)).mono ?_; rintro en w5 ⟨v5, rfl, ho1, hg1, hn1⟩; have H5 := Lib.hid (H4'.out.step ho1 hg1); clear ho1 hg1 hn1))
            clear k0 k1 k2 k3 k4
            go_upto_region 47 with fail
            go_wp2_with (refine step_seg7 rfl (.tmp 151) (.tmp 150) rfl H5.out HLN.out hlt _ _ _ _ _ _ _ _ rfl rfl (by omega) ?_; intro w9 h7; have H7 := Lib.hid h7; clear h7)
            go_roundg (n - (i + 1))
            case measure => exact Nat.lt_of_lt_of_le (by omega) hgk
            case rel =>
              have hgn := gb_next ds ks n sb i (fm : Nat) (fm : Nat) w _ _ lp pre T hlt HG.out.1 HG.out.2.1 HG.out.2.2.1 HG.out.2.2.2.1 [g, a, b', c, e] HNU.out (fn_old lp _ _ HG.out.2.2.2.2.1 (by omega)) _ rfl (by rw [hsg, HE.out]; exact H7.out)
              rw [hsg] at hgn
              exact hgn
end Go.Proofs.YtoegmcakolidbaaDoor
