/-
  zzDecodeMappings: the tokens' text is read back to the lines. No statement of the seat is proved here.
-/
import Derived.Test.YtfbeeekakfllpaaDoorRf
import Derived.Test.YtfbeeekakfllpaaDoorStp
import Derived.Test.YtfbeeekakfllpaaDoorVq
import Derived.Test.YtfbeeekakfllpaaDoorQv
import Derived.Deep.CutBlock
namespace Go.Proofs.YtfbeeekakfllpaaDoor
open Go.RowKit
set_option linter.unusedVariables false
set_option linter.unusedSimpArgs false
theorem drop_head {az R : List Int} {pos : Nat} {x : Int} (h : az.drop pos = x :: R) : pos < az.length ∧ nth az pos = x ∧ az.drop (pos + 1) = R := by
  have hl : pos < az.length := by
    rcases Nat.lt_or_ge pos az.length with h1 | h1
    · exact h1
    · rw [List.drop_eq_nil_of_le h1] at h; cases h
  rw [List.drop_eq_getElem_cons hl] at h
  injection h with h1 h2
  exact ⟨hl, by rw [nth_get az pos hl]; exact h1, h2⟩
theorem drop_past {az X R : List Int} {pos : Nat} (h : az.drop pos = X ++ R) (hp : pos ≤ az.length) : az.drop (pos + X.length) = R ∧ pos + X.length ≤ az.length := by
  have h1 := congrArg List.length h
  rw [List.length_drop, List.length_append] at h1
  refine ⟨?_, by omega⟩
  rw [← List.drop_drop, h, List.drop_left]
theorem encs_one (z : Int) : encs [z] = enc z := by simp [encs]
theorem seg_num {az zl R : List Int} {pos : Nat} (h : az.drop pos = encs zl ++ R) (hp : pos ≤ az.length) (i : Nat) (hi : i < zl.length) : NumAt az (pos + (encs (zl.take i)).length) (nth zl i) := by
  have e : zl = zl.take i ++ ([nth zl i] ++ zl.drop (i + 1)) := by
    rw [nth_get zl i hi, ← List.append_assoc, List.take_append_getElem hi, List.take_append_drop]
  have e2 : encs zl = encs (zl.take i) ++ (enc (nth zl i) ++ encs (zl.drop (i + 1))) := by
    rw [← encs_one, ← encs_app, ← encs_app, ← e]
  have e3 : az = (az.take pos ++ encs (zl.take i)) ++ (enc (nth zl i) ++ (encs (zl.drop (i + 1)) ++ R)) := by
    have : az = az.take pos ++ az.drop pos := (List.take_append_drop pos az).symm
    rw [h, e2] at this
    rw [this]
    simp only [List.append_assoc]
    rw [List.take_left' (by rw [List.length_take]; omega)]
  intro j hj
  have hX : (az.take pos ++ encs (zl.take i)).length = pos + (encs (zl.take i)).length := by rw [List.length_append, List.length_take]; omega
  rw [← hX]
  generalize az.take pos ++ encs (zl.take i) = X at e3
  rw [e3]
  refine ⟨by simp; omega, ?_⟩
  rw [nth_app_right, nth_app_left _ _ _ hj]
/-- ahead of the number i stands a digit -/
theorem seg_dig {az zl R : List Int} {pos : Nat} (h : az.drop pos = encs zl ++ R) (hp : pos ≤ az.length) (i : Nat) (hi : i < zl.length) : pos + (encs (zl.take i)).length < az.length ∧ B64 (nth az (pos + (encs (zl.take i)).length)) := by
  have h2 := seg_num h hp i hi 0 (enc_len _).1
  rw [Nat.add_zero] at h2
  exact ⟨h2.1, by rw [h2.2]; exact enc_ok _ _ (nth_mem _ _ (enc_len _).1)⟩
theorem take_enc (zl : List Int) (i : Nat) (hi : i < zl.length) : (encs (zl.take (i + 1))).length = (encs (zl.take i)).length + (enc (nth zl i)).length := by
  rw [List.take_succ_eq_append_getElem hi, encs_app, ← nth_get zl i hi, encs_one, List.length_append]
theorem fill_step (zl : List Int) (i : Nat) (hi : i < zl.length) (h5 : i < 5) : (zl.take i ++ List.replicate (5 - i) 0).set i (nth zl i) = zl.take (i + 1) ++ List.replicate (5 - (i + 1)) 0 := by
  have hm : (zl.take i).length = i := by rw [List.length_take]; omega
  have e : 5 - i = (5 - (i + 1)) + 1 := by omega
  rw [e, List.replicate_succ, List.set_append_right _ _ (by omega), hm, Nat.sub_self, List.set_cons_zero, List.take_succ_eq_append_getElem hi, List.append_assoc, List.singleton_append, ← nth_get]
theorem seg_end {az : List Int} {en : Nat} {t : List Tk} (h : az.drop en = txt true t) (he : en ≤ az.length) : (t = [] ∧ en = az.length) ∨ (en < az.length ∧ nth az en = 59 ∧ ∃ u, t = .nl :: u) ∨ (en < az.length ∧ nth az en = 44 ∧ ∃ ds u, t = .seg ds :: u ∧ az.drop (en + 1) = encs ds ++ txt true u) := by
  match t, h with
  | [], h =>
    left
    have := congrArg List.length h
    simp [txt] at this
    exact ⟨rfl, by omega⟩
  | .nl :: t, h => have := drop_head h; exact .inr (.inl ⟨this.1, this.2.1, t, rfl⟩)
  | .seg zs :: t, h => have := drop_head (R := encs zs ++ txt true t) h; exact .inr (.inr ⟨this.1, this.2.1, zs, t, rfl, this.2.2⟩)
theorem Lns.start (w : World) (B : Nat) (hB : B ≤ w.heap.size) : Lns (w.alloc (.cells #[.slice none 0 0] 96)) B (.slice (some ⟨w.heap.size, 0, none⟩) 1 1) [] (.slice none 0 0) [] [] := by
  refine ⟨⟨⟨by simp, .inr ⟨w.heap.size, 1, #[.slice none 0 0], rfl, hB, blk_new w _, by simp, by decide, by simp, by simp⟩⟩, fun r hr => ?_⟩, rfl, fun k hk => absurd hk (by simp), OwnT.nil _ _ _ _, fun x hx => absurd hx (by simp)⟩
  simp at hr; subst hr; rfl
theorem tok_nl (r : Rdr) : r.tok .nl = { r with rows := r.rows ++ [r.cur], cur := [], col := 0 } := rfl
/-- what the loop over the text knows -/
structure DcS (zs : List Int) (n : Nat) (re : Rdr) (w : World) (k : Nat) (r : Rdr) (rest : List Tk) (pos : Nat) (v : Value) (cvs : List Value) (lv : Value) (wr : World) : Prop where
  le : rest.length ≤ k
  dr : zs.drop pos = txt false rest
  ps : pos ≤ n
  bt : Bt r rest
  fin : rest.foldl Rdr.tok r = re
  lns : Lns wr w.heap.size v cvs lv r.rows r.cur
  bel : Below w.heap.size w wr
  cap : r.rows.length + r.cur.length + rest.length ≤ 33554432
def GDc (zs : List Int) (n : Nat) (re : Rdr) (w : World) (k : Nat) (v4 v5 v6 v7 v8 v9 v10 : Value) (wr : World) : Prop := ∃ (r : Rdr) (rest : List Tk) (pos : Nat) (cvs : List Value) (lv : Value), v5 = .int .i64 r.col ∧ v6 = .int .i64 0 ∧ v7 = .int .i64 r.ol ∧ v8 = .int .i64 r.oc ∧ v9 = .int .i64 r.on ∧ v10 = .int .i64 pos ∧ DcS zs n re w k r rest pos v4 cvs lv wr
def IsDec (rows : List (List Sg)) (cur : List Sg) (w : World) (e : Ending) (w' : World) : Prop := ∃ v cvs lv, e = .returned (.tuple #[v, .bool true]) ∧ Lns w' w.heap.size v cvs lv rows cur ∧ Below w.heap.size w w'
def GIn (ds : List Int) (pos b : Nat) (wr1 : World) (k : Nat) (v10 v12 : Value) (wx : World) : Prop := ∃ i : Nat, i ≤ ds.length ∧ ds.length - i ≤ k ∧ v12 = .int .i64 i ∧ v10 = .int .i64 (pos + (encs (ds.take i)).length : Nat) ∧ Blk wx b 95 (ints .i64 (ds.take i ++ List.replicate (5 - i) 0)) ∧ wr1.grownBy wx (some b)
def GIe (ds : List Int) (en b : Nat) (wr1 : World) (v10 v12 : Value) (wx : World) : Prop := v12 = .int .i64 ds.length ∧ v10 = .int .i64 en ∧ Blk wx b 95 (ints .i64 (ds ++ List.replicate (5 - ds.length) 0)) ∧ wr1.grownBy wx (some b)
theorem seg_len {ds : List Int} (h : ds.length = 4 ∨ ds.length = 5) : (∃ a b c d, ds = [a, b, c, d]) ∨ ∃ a b c d e, ds = [a, b, c, d, e] := by
  match ds, h with
  | [a, b, c, d], _ => exact .inl ⟨a, b, c, d, rfl⟩
  | [a, b, c, d, e], _ => exact .inr ⟨a, b, c, d, e, rfl⟩
  | [], h => simp at h
  | [_], h => simp at h
  | [_, _], h => simp at h
  | [_, _, _], h => simp at h
  | _ :: _ :: _ :: _ :: _ :: _ :: _, h => simp at h
set_option maxRecDepth 100000 in
set_option maxHeartbeats 4000000 in
theorem dec_any (ao : Option Addr) (cap n : Nat) (zs : List Int) (toks : List Tk) (rows : List (List Sg)) (cur : List Sg) (w : World) (hn : zs.length = n) (hin : In .u8 w ao zs) (hl : n ≤ 1073741824) (hz : zs = txt false toks) (hbt : Bt rd0 toks) (hrd : (rdOf toks).rows = rows ∧ (rdOf toks).cur = cur) (ht : toks.length ≤ 33554432) :
    Calls Tryd.prog 19 #[.slice ao n cap] w (IsDec rows cur w) := by
  have HI := Lib.hid (And.intro hin (And.intro hn hrd))
  obtain ⟨re, hre⟩ : ∃ re, rdOf toks = re := ⟨_, rfl⟩
  have HST : Hid (DcS zs n re w toks.length rd0 toks 0 (.slice (some ⟨w.heap.size, 0, none⟩) 1 1) [] (.slice none 0 0) (w.alloc (.cells #[.slice none 0 0] 96))) := Lib.hid ⟨Nat.le_refl _, by simpa using hz, Nat.zero_le _, hbt, hre, Lns.start w _ (Nat.le_refl _), (Below.refl _ w).alloc (Nat.le_refl _) _, by simpa [rd0] using ht⟩
  have HRE := Lib.hid hre
  clear hn hin hz hbt hrd ht hre
  go_enter Tryd.func19, Tryd.ntmps19
  go_wp2_with fail
  go_loopg [4, 5, 6, 7, 8, 9, 10] (toks.length) (fun k v4 v5 v6 v7 v8 v9 v10 wr => GDc zs n re w k v4 v5 v6 v7 v8 v9 v10 wr)
  case atStart => exact ⟨rd0, toks, 0, _, _, rfl, rfl, rfl, rfl, rfl, rfl, HST.out⟩
  case round =>
    obtain ⟨r, rest, pos, cvs, lv, rfl, rfl, rfl, rfl, rfl, rfl, hD⟩ := hrel
    have hrb := hD.bt.here
    obtain ⟨c, hc⟩ : ∃ c, r.col = c := ⟨_, rfl⟩
    obtain ⟨ol, hol⟩ : ∃ c, r.ol = c := ⟨_, rfl⟩
    obtain ⟨oc, hoc⟩ : ∃ c, r.oc = c := ⟨_, rfl⟩
    obtain ⟨on, hon⟩ : ∃ c, r.on = c := ⟨_, rfl⟩
    obtain ⟨c0, c1, l0, l1, o0, o1, n0, n1⟩ := hrb
    rw [hc] at c0 c1
    rw [hol] at l0 l1
    rw [hoc] at o0 o1
    rw [hon] at n0 n1
    rw [hc, hol, hoc, hon]
    have HV := Lib.hid (And.intro hc (And.intro hol (And.intro hoc hon)))
    clear hc hol hoc hon
    have hps := hD.ps
    have hin := HI.out.1.kept hD.bel
    have hsz := hD.bel.size
    have hzn := HI.out.2.1
    match rest, hD with
    | [], hD =>
      have hdr := congrArg List.length hD.dr
      have he : pos = n := by simp [txt] at hdr; omega
      have HD := Lib.hid hD
      subst he
      clear hD hdr hin hzn
      go_wp2_with fail
      go_ret2
      refine ⟨_, cvs, lv, rfl, ?_, HD.out.bel⟩
      have hf := HD.out.fin
      have h2 := HI.out.2.2
      rw [HRE.out, ← hf] at h2
      have h3 : r.rows = rows ∧ r.cur = cur := h2
      rw [← h3.1, ← h3.2]
      exact HD.out.lns
    | .nl :: t, hD =>
      obtain ⟨hd1, hd2, hd3⟩ := drop_head (R := txt false t) hD.dr
      obtain ⟨q, off, hx, hq, hcl⟩ := hin.at hd1
      rw [hd2] at hcl
      subst hx
      have hlt : pos < n := by omega
      have HD := Lib.hid (And.intro hD hd3)
      have HB : Hid (((cvs ++ [lv]).map (fun x => [x])).length + 1 ≤ maxLen ∧ (((cvs ++ [lv]).map (fun x => [x])).length + 1) * 24 ≤ 140737488355328) := Lib.hid (by
        have := hD.lns.rl; have := hD.cap; simp only [List.length_map, List.length_append, List.length_cons, List.length_nil, maxLen]; omega)
      clear hD hd1 hd2 hd3 hin hq hzn
      go_upto_region 7 with (at_builtin; (refine wpList_pushT _ rfl (.tmp 28) (.tmp 29) 64 96 1 rfl w.heap.size Tryd.underlying64 24 (.slice none 0 0) rfl (by omega) info96 _ ((cvs ++ [lv]).map (fun x => [x])) [.slice none 0 0] rfl (OwnT.gb HD.out.1.lns.out (World.grownBy_alloc wr _ none) (by cases Value.ownBlock _ <;> simp)) wr.heap.size rfl (Blk.new _ _ _) rfl (by intro u hu; simp at hu; subst hu; rfl) HB.out.1 HB.out.2 (by simp; omega) ?_; intro v' w6 ho6 hg6 hn6; have H6 : Hid (Lns w6 w.heap.size v' (cvs ++ [lv]) (.slice none 0 0) (r.rows ++ [r.cur]) [] ∧ Below w.heap.size w w6) := Lib.hid ⟨HD.out.1.lns.nl ho6 (gb_trans (World.grownBy_alloc wr _ _) hg6), HD.out.1.bel.grown (gb_trans (World.grownBy_alloc wr _ _) hg6) hsz (fun g hg => (HD.out.1.lns.out.lt g hg).1)⟩; clear ho6 hg6 hn6))
      go_wp2_with fail
      go_roundg t.length
      case measure => have := HD.out.1.le; simp at this; omega
      case rel =>
        have hh := HD.out.1
        refine ⟨r.tok .nl, t, pos + 1, _, _, rfl, rfl, by rw [← HV.out.2.1]; rfl, by rw [← HV.out.2.2.1]; rfl, by rw [← HV.out.2.2.2]; rfl, by go_num, ⟨Nat.le_refl _, HD.out.2, by omega, hh.bt.2.2, hh.fin, H6.out.1, H6.out.2, ?_⟩⟩
        have := hh.cap
        simp [Rdr.tok] at this ⊢
        omega
    | .seg ds :: t, hD =>
      have hdr : zs.drop pos = encs ds ++ txt true t := hD.dr
      have hok := hD.bt.2.1
      have hlen := hok.1
      have hdg := fun i hi => seg_dig hdr (by omega) i hi
      have hd0 := hdg 0 (by omega)
      simp only [List.take_zero, encs_nil, List.length_nil, Nat.add_zero] at hd0
      obtain ⟨q, off, hx, hq, hcl⟩ := hin.at hd0.1
      obtain ⟨b0, b1, b2, b3⟩ := hd0.2
      have q59 : ((nth zs pos) == 59) = false := beq_eq_false_iff_ne.2 b3
      have hlt : pos < n := by omega
      generalize nth zs pos = x0 at *
      subst hx
      obtain ⟨go, gcap, hvv, hgB, hgl, hgc, hgf⟩ := hD.lns.out.at cvs.length (by simp)
      obtain ⟨nn, hnn⟩ : ∃ nn, cvs.length = nn := ⟨_, rfl⟩
      obtain ⟨N, hN⟩ : ∃ N, nn + 1 = N := ⟨_, rfl⟩
      have hcl2 : (cvs ++ [lv]).length = N := by simp; omega
      rw [hcl2] at hvv
      have hgc' : wr.cell? ⟨go, nn, none⟩ = some lv := by rw [← hnn, hgc]; simp
      obtain ⟨lao, lcap, hlv, _⟩ := hD.lns.la.form
      obtain ⟨m, hm⟩ : ∃ m, (r.cur.map sgRow).length = m := ⟨_, rfl⟩
      rw [hm] at hlv
      subst hvv hlv
      obtain ⟨b, hb⟩ : ∃ b, wr.heap.size = b := ⟨_, rfl⟩
      obtain ⟨W1, hW1⟩ : ∃ W1, wr.alloc (.cells #[.int .i64 0, .int .i64 0, .int .i64 0, .int .i64 0, .int .i64 0] 95) = W1 := ⟨_, rfl⟩
      have hbk : Blk W1 b 95 (ints .i64 (ds.take 0 ++ List.replicate (5 - 0) 0)) := by rw [← hW1, ← hb]; exact Blk.new wr 95 _
      have hg1 : wr.grownBy W1 none := by rw [← hW1]; exact World.grownBy_alloc _ _ _
      have hlW : W1.heap.size = b + 1 := by rw [← hW1, ← hb]; simp
      obtain ⟨en, hen⟩ : ∃ en, pos + (encs ds).length = en := ⟨_, rfl⟩
      have hend := drop_past hdr (by omega)
      rw [hen] at hend
      have HD := Lib.hid (And.intro hD (And.intro hdr (And.intro hok (And.intro hdg hq))))
      have HW := Lib.hid (And.intro hW1 (And.intro hb (And.intro hbk (And.intro hg1 (And.intro hend hen)))))
      have HN := Lib.hid (And.intro hnn (And.intro hN (And.intro hm (And.intro hgc' hgf))))
      have HBL : Hid (∀ wx, W1.grownBy wx (some b) → Below w.heap.size w wx) := Lib.hid (fun wx hg => (hD.bel.grown hg1 hsz (fun g e => by cases e)).grown hg (by omega) (fun g e => by cases e; omega))
      clear hD hdr hok hdg hd0 hin hq b0 b1 b2 b3 hzn hW1 hbk hg1 hend hen hnn hN hm hgc' hgc hgf hcl2
      go_upto_block 2 with fail
      rw [HW.out.1]
      clear hcl
      go_cut [10, 12] (fun x y wx => GIe ds en b W1 x y wx)
      case first =>
        go_wp2_with fail
        go_loopg [10, 12] 5 (fun k x y wx => GIn ds pos b W1 k x y wx)
        case atStart => exact ⟨0, Nat.zero_le _, by omega, rfl, by simp [encs], HW.out.2.2.1, gb_refl _ _⟩
        case round =>
          obtain ⟨i, hi, hik, rfl, rfl, hB, hg⟩ := hrel
          have hbel := HBL.out _ hg
          have hin := HI.out.1.kept hbel
          rcases (show ds.length = i ∨ i < ds.length by omega) with hie | hlt2
          · have he2 : pos + (encs (ds.take i)).length = en := by rw [← hie, List.take_length]; exact HW.out.2.2.2.2.2
            rw [he2]
            have hn2 := HI.out.2.1
            have hfin : Blk wr b 95 (ints .i64 (ds ++ List.replicate (5 - ds.length) 0)) := by
              rw [← hie, List.take_length] at hB
              exact hB
            have HF := Lib.hid (And.intro hfin (And.intro hg hie))
            have hend := HW.out.2.2.2.2.1
            have hel : en ≤ n := by omega
            rcases seg_end hend.1 hend.2 with ⟨_, he⟩ | ⟨he, hc59, _⟩ | ⟨he, hc44, _⟩
            · obtain rfl : en = n := by omega
              clear hB hg hin hbel hfin hend he hn2 hie
              go_wp2_with fail
              go_meet
              exact ⟨congrArg (fun j : Nat => Value.int .i64 j) HF.out.2.2.symm, rfl, HF.out.1, HF.out.2.1⟩
            · obtain ⟨q', off', hx, hq, hcl⟩ := hin.at he
              cases hx
              rw [hc59] at hcl
              have hlt3 : en < n := by omega
              clear hB hg hin hbel hfin hend he hn2 hie hc59 hq
              go_wp2_with fail
              go_meet
              exact ⟨congrArg (fun j : Nat => Value.int .i64 j) HF.out.2.2.symm, rfl, HF.out.1, HF.out.2.1⟩
            · obtain ⟨q', off', hx, hq, hcl⟩ := hin.at he
              cases hx
              rw [hc44] at hcl
              have hlt3 : en < n := by omega
              clear hB hg hin hbel hfin hend he hn2 hie hc44 hq
              go_wp2_with fail
              go_meet
              exact ⟨congrArg (fun j : Nat => Value.int .i64 j) HF.out.2.2.symm, rfl, HF.out.1, HF.out.2.1⟩
          · obtain ⟨p, hp⟩ : ∃ p, pos + (encs (ds.take i)).length = p := ⟨_, rfl⟩
            have hdg := HD.out.2.2.2.1 i hlt2
            rw [hp] at hdg ⊢
            obtain ⟨q', off', hx, hq, hcl⟩ := hin.at hdg.1
            cases hx
            obtain ⟨b0, b1, b2, b3⟩ := hdg.2
            have q59 : ((nth zs p) == 59) = false := beq_eq_false_iff_ne.2 b3
            have q44 : ((nth zs p) == 44) = false := beq_eq_false_iff_ne.2 b2
            have n59 : ((nth zs p) != 59) = true := bne_iff_ne.2 b3
            have n44 : ((nth zs p) != 44) = true := bne_iff_ne.2 b2
            have hlt3 : p < n := by have := HI.out.2.1; omega
            generalize nth zs p = x1 at *
            have hi4 : i ≤ 4 := by omega
            have HZ : Hid (Bnd (nth ds i) ∧ NumAt zs p (nth ds i) ∧ p + (enc (nth ds i)).length = pos + (encs (ds.take (i + 1))).length ∧ (ds.take i ++ List.replicate (5 - i) 0).set i (nth ds i) = ds.take (i + 1) ++ List.replicate (5 - (i + 1)) 0) := Lib.hid ⟨HD.out.2.2.1.2.2 _ (nth_mem _ _ hlt2), by have := seg_num HD.out.2.1 (by have := HI.out.2.1; omega) i hlt2; rw [hp] at this; exact this, by rw [take_enc ds i hlt2]; omega, fill_step ds i hlt2 (by omega)⟩
            have HG := Lib.hid (And.intro hB (And.intro hg hin))
            have hst := hB.int (i := i) (by simp; omega)
            have hsf := hB.free i
            obtain ⟨z, hz⟩ : ∃ z, nth ds i = z := ⟨_, rfl⟩
            rw [hz] at HZ
            clear hB hg hin hbel hdg hq hp b0 b1 b2 b3
            go_wp2_with (go_at_call 23; refine (zv_any _ cap n zs p z _ HI.out.2.1 HG.out.2.2 hl HZ.out.1 HZ.out.2.1).mono ?_; rintro e w5 ⟨rfl, rfl⟩; rw [HZ.out.2.2.1])
            go_roundg (ds.length - (i + 1))
            case measure => omega
            case rel =>
              refine ⟨i + 1, by omega, Nat.le_refl _, by go_num, rfl, ?_, gb_set HG.out.2.1 _ none _⟩
              have := HG.out.1.put i z
              rw [HZ.out.2.2.2] at this
              exact this
      case rest =>
        obtain ⟨rfl, rfl, hB, hg⟩ := hcut
        have hbel := HBL.out _ hg
        obtain ⟨L, hL⟩ : ∃ L, ds.length = L := ⟨_, rfl⟩
        rw [hL] at hlen hB ⊢
        have hd0 := HD.out.2.2.1.2.1
        have hrb := HD.out.1.bt.2.2.here
        have g0 : wc.cell? ⟨b, 0, none⟩ = some (.int .i64 (d0 ds 0)) := by
          rw [hB.int (i := 0) (by simp; omega)]; unfold nth d0; simp [List.getElem?_append_left (show 0 < ds.length by omega)]
        have g1 : wc.cell? ⟨b, 1, none⟩ = some (.int .i64 0) := by
          rw [hB.int (i := 1) (by simp; omega), ← hd0]; unfold nth d0; simp [List.getElem?_append_left (show 1 < ds.length by omega)]
        have g2 : wc.cell? ⟨b, 2, none⟩ = some (.int .i64 (d0 ds 2)) := by
          rw [hB.int (i := 2) (by simp; omega)]; unfold nth d0; simp [List.getElem?_append_left (show 2 < ds.length by omega)]
        have g3 : wc.cell? ⟨b, 3, none⟩ = some (.int .i64 (d0 ds 3)) := by
          rw [hB.int (i := 3) (by simp; omega)]; unfold nth d0; simp [List.getElem?_append_left (show 3 < ds.length by omega)]
        have g4 : L = 5 → wc.cell? ⟨b, 4, none⟩ = some (.int .i64 (d0 ds 4)) := by
          intro h5
          rw [hB.int (i := 4) (by simp; omega)]; unfold nth d0; simp [List.getElem?_append_left (show 4 < ds.length by omega)]
        have HC := Lib.hid (And.intro hbel (And.intro hg (And.intro hL hrb)))
        have hlb : 4 ≤ L ∧ L ≤ 5 := by omega
        have hlen4 : ((L : Int) == 4 || (L : Int) == 5) = true := by rcases hlen with rfl | rfl <;> rfl
        have z0 : 0 ≤ c + d0 ds 0 ∧ c + d0 ds 0 ≤ 16777216 := by rw [← HV.out.1]; exact ⟨hrb.c0, hrb.c1⟩
        have z2 : 0 ≤ ol + d0 ds 2 ∧ ol + d0 ds 2 ≤ 16777216 := by rw [← HV.out.2.1]; exact ⟨hrb.l0, hrb.l1⟩
        have z3 : 0 ≤ oc + d0 ds 3 ∧ oc + d0 ds 3 ≤ 16777216 := by rw [← HV.out.2.2.1]; exact ⟨hrb.o0, hrb.o1⟩
        have z4 : L = 5 → 0 ≤ on + d0 ds 4 ∧ on + d0 ds 4 ≤ 16777216 := by
          intro h5
          have h0 := hrb.n0
          have h1 := hrb.n1
          have e : (r.tok (.seg ds)).on = r.on + d0 ds 4 := by show (if ds.length = 5 then _ else _) = _; rw [if_pos (by omega)]
          rw [e] at h0 h1
          rw [← HV.out.2.2.2]; exact ⟨h0, h1⟩
        have HG := Lib.hid (And.intro g4 z4)
        obtain ⟨y0, hy0⟩ : ∃ y, d0 ds 0 = y := ⟨_, rfl⟩
        obtain ⟨y2, hy2⟩ : ∃ y, d0 ds 2 = y := ⟨_, rfl⟩
        obtain ⟨y3, hy3⟩ : ∃ y, d0 ds 3 = y := ⟨_, rfl⟩
        rw [hy0] at g0 z0
        rw [hy2] at g2 z2
        rw [hy3] at g3 z3
        have HY := Lib.hid (And.intro hy0 (And.intro hy2 hy3))
        obtain ⟨z00, z01⟩ := z0
        obtain ⟨z20, z21⟩ := z2
        obtain ⟨z30, z31⟩ := z3
        obtain ⟨hL4, hL5⟩ := hlb
        have hbl : b < wc.heap.size := hB.lt
        clear hd0 hrb hbel hg g4 z4 hlen4 hy0 hy2 hy3
        go_upto_region 20 with fail
        go_cut [77] (fun x wx => x = .bool false ∧ wx = wc)
        case first =>
          rcases hlen with rfl | rfl
          all_goals
            go_wp2_with fail
            go_meet
            exact ⟨rfl, rfl⟩
        case rest =>
        obtain ⟨rfl, hcw⟩ := hcut
        have hcw1 := hcw.symm
        subst hcw1
        clear hcw
        go_upto_if 106 with fail
        obtain ⟨b2, hb2⟩ : ∃ b2, wc.heap.size = b2 := ⟨_, rfl⟩
        obtain ⟨W2, hW2⟩ : ∃ W2, wc.alloc (.cells #[.int .i64 (c + y0), .int .i64 L, .int .i64 0, .int .i64 (ol + y2), .int .i64 (oc + y3), .int .i64 (-1)] 94) = W2 := ⟨_, rfl⟩
        have hbk2 : Blk W2 b2 94 #[.int .i64 (c + y0), .int .i64 L, .int .i64 0, .int .i64 (ol + y2), .int .i64 (oc + y3), .int .i64 (-1)] := by rw [← hW2, ← hb2]; exact Blk.new wc 94 _
        have hg2 : wc.grownBy W2 none := by rw [← hW2]; exact World.grownBy_alloc _ _ _
        have hlW2 : W2.heap.size = b2 + 1 := by rw [← hW2, ← hb2]; simp
        have h4 : L = 5 → W2.cell? ⟨b, 4, none⟩ = some (.int .i64 (d0 ds 4)) := fun h => gb_cell hg2 (by simp) (HG.out.1 h)
        have HW2 := Lib.hid (And.intro hW2 (And.intro hb2 (And.intro hbk2 hg2)))
        rw [hW2, HW2.out.2.1]
        have hgW2 : wr.grownBy W2 none := gb_trans (gb_new (gb_trans (gb_none HW.out.2.2.2.1) HC.out.2.1) (by omega)) hg2
        have HGW := Lib.hid hgW2
        clear hW2 hg2 g0 g1 g2 g3 hgW2
        go_cut [9] (fun v wx => v = .int .i64 (if L = 5 then on + d0 ds 4 else on) ∧ Blk wx b2 94 #[.int .i64 (c + y0), .int .i64 L, .int .i64 0, .int .i64 (ol + y2), .int .i64 (oc + y3), .int .i64 (if L = 5 then on + d0 ds 4 else -1)] ∧ W2.grownBy wx (some b2))
        case first =>
          rcases hlen with rfl | rfl
          · clear h4
            go_wp2_with fail
            go_meet
            exact ⟨rfl, hbk2, gb_refl _ _⟩
          · have h4' := h4 rfl
            have z4 := HG.out.2 rfl
            obtain ⟨z40, z41⟩ := z4
            obtain ⟨y4, hy4⟩ : ∃ y, d0 ds 4 = y := ⟨_, rfl⟩
            rw [hy4] at h4' z40 z41
            have HY4 := Lib.hid hy4
            have HBK := Lib.hid hbk2
            have f5 := hbk2.free 5
            have c5 := hbk2.cell 5
            simp at c5
            have hl2 := hbk2.lt
            clear h4 hy4 hbk2
            go_wp2_with fail
            go_meet
            rw [HY4.out]
            exact ⟨rfl, HBK.out.set 5 _, gb_set (gb_refl _ _) 5 none _⟩
        case rest =>
        obtain ⟨rfl, hbk3, hg3⟩ := hcut
        obtain ⟨oo, hoo⟩ : ∃ o, (if L = 5 then on + d0 ds 4 else on) = o := ⟨_, rfl⟩
        obtain ⟨nm, hnm⟩ : ∃ o, (if L = 5 then on + d0 ds 4 else -1) = o := ⟨_, rfl⟩
        rw [hoo]
        rw [hnm] at hbk3
        have HO := Lib.hid (And.intro hoo hnm)
        clear hoo hnm h4 hbk2
        have hNn : nn < N := by have := HN.out.2.1; omega
        have hNq : (N : Int) - 1 = (nn : Int) := by have := HN.out.2.1; omega
        have hNl : N ≤ 67108864 := by have := HN.out.2.1; have := HN.out.1; have := HD.out.1.cap; have := HD.out.1.lns.rl; omega
        have hgx : wr.grownBy wc none := gb_new (gb_trans (gb_none HGW.out) hg3) (by omega)
        have hgob : go < b := by omega
        have d0' : wc.cell? ⟨go, nn, none⟩ = some (.slice lao m lcap) := gb_cell hgx (by simp) HN.out.2.2.2.1
        have hS : wc.drew.cell? ⟨go, nn, none⟩ = some (.slice lao m lcap) ∧ wc.drew.cell? ⟨b2, 0, none⟩ = some (.int .i64 (c + y0)) ∧ wc.drew.cell? ⟨b2, 1, none⟩ = some (.int .i64 L) ∧ wc.drew.cell? ⟨b2, 2, none⟩ = some (.int .i64 0) ∧ wc.drew.cell? ⟨b2, 3, none⟩ = some (.int .i64 (ol + y2)) ∧ wc.drew.cell? ⟨b2, 4, none⟩ = some (.int .i64 (oc + y3)) ∧ wc.drew.cell? ⟨b2, 5, none⟩ = some (.int .i64 nm) := ⟨d0', hbk3.cell 0, hbk3.cell 1, hbk3.cell 2, hbk3.cell 3, hbk3.cell 4, hbk3.cell 5⟩
        obtain ⟨s0, s1, s2, s3, s4, s5, s6⟩ := hS
        have hS := And.intro s0 (And.intro s1 (And.intro s2 (And.intro s3 (And.intro s4 (And.intro s5 s6)))))
        have HX := Lib.hid (And.intro hbk3 hgx)
        have HTK : Hid (r.tok (.seg ds) = ⟨r.rows, r.cur ++ [⟨c + y0, L, ol + y2, oc + y3, nm⟩], c + y0, ol + y2, oc + y3, oo⟩) := Lib.hid (by
          rw [← HO.out.1, ← HO.out.2, ← HY.out.1, ← HY.out.2.1, ← HY.out.2.2, ← HV.out.1, ← HV.out.2.1, ← HV.out.2.2.1, ← HV.out.2.2.2, ← HC.out.2.2.1]; rfl)
        clear hbk3 hgx hg3 d0' hlW2
        have hbb : b < b2 := by omega
        have hlb : b2 < wc.heap.size := HX.out.1.lt
        go_upto_region 35 with fail
        go_cut [] (fun wx => ∃ lv', Hid (Lns wx w.heap.size (.slice (some ⟨go, 0, none⟩) N gcap) cvs lv' r.rows (r.cur ++ [⟨c + y0, L, ol + y2, oc + y3, nm⟩]) ∧ Below w.heap.size w wx))
        case first =>
          have HB : Hid (((r.cur.map sgRow).length + 1 ≤ maxLen ∧ ((r.cur.map sgRow).length + 1) * 48 ≤ 140737488355328) ∧ ∀ o, w.heap.size ≤ (wc.drew.alloc o).heap.size) := Lib.hid (by
            have := HD.out.1.cap; simp only [List.length_map, maxLen]; refine ⟨by omega, fun o => by simp; omega⟩)
          have hlg : (Value.slice lao m lcap).ownBlock ≠ some go := fun e => HD.out.1.lns.out.ne HD.out.1.lns.la (by decide) go rfl e
          have hlb2 : (Value.slice lao m lcap).ownBlock ≠ some b2 := fun e => by have := (HD.out.1.lns.la.lt b2 e).2; omega
          have HP : Hid (∀ (w4 : World), (wc.alloc (.cells #[.int .i64 (c + y0), .int .i64 L, .int .i64 0, .int .i64 (ol + y2), .int .i64 (oc + y3), .int .i64 nm] 94)).drew.grownBy w4 (Value.slice lao m lcap).ownBlock → ((w4.cell? ⟨go, nn, none⟩ = some (.slice lao m lcap) ∧ w4.cell? ⟨b2, 0, none⟩ = some (.int .i64 (c + y0)) ∧ w4.cell? ⟨b2, 1, none⟩ = some (.int .i64 L) ∧ w4.cell? ⟨b2, 2, none⟩ = some (.int .i64 0) ∧ w4.cell? ⟨b2, 3, none⟩ = some (.int .i64 (ol + y2)) ∧ w4.cell? ⟨b2, 4, none⟩ = some (.int .i64 (oc + y3)) ∧ w4.cell? ⟨b2, 5, none⟩ = some (.int .i64 nm)) ∧ w4.frozen? ⟨go, nn, none⟩ = false)) := Lib.hid (fun w4 hg => by
            have hg' : wc.grownBy w4 (Value.slice lao m lcap).ownBlock := gb_trans (gb_trans (World.grownBy_alloc _ _ _) (gb_drewN _ 1)) hg
            obtain ⟨s0, s1, s2, s3, s4, s5, s6⟩ := hS
            have hfz : w4.frozen? ⟨go, nn, none⟩ = false := by
              have ho := (HD.out.1.lns.out.gb HX.out.2 (.inr (fun e => by cases e))).gb hg' (.inr (fun e => hlg (by rw [← e]; rfl)))
              obtain ⟨g', cap', hv', _, _, _, hf'⟩ := Own1.at ho cvs.length (by simp)
              have e := congrArg Value.ownBlock hv'
              simp [Value.ownBlock] at e
              rw [e, ← HN.out.1]; exact hf'
            exact ⟨⟨gb_cell hg' hlg s0, gb_cell hg' hlb2 s1, gb_cell hg' hlb2 s2, gb_cell hg' hlb2 s3, gb_cell hg' hlb2 s4, gb_cell hg' hlb2 s5, gb_cell hg' hlb2 s6⟩, hfz⟩)
          have HB2 := Lib.hid hlb2
          clear hlg hlb2
          have hga : wc.drew.grownBy (wc.alloc (.cells #[.int .i64 (c + y0), .int .i64 L, .int .i64 0, .int .i64 (ol + y2), .int .i64 (oc + y3), .int .i64 nm] 94)).drew none := World.grownBy_alloc wc.drew (.cells #[.int .i64 (c + y0), .int .i64 L, .int .i64 0, .int .i64 (ol + y2), .int .i64 (oc + y3), .int .i64 nm] 94) none
          have a0 := gb_cell hga (by simp) hS.1
          clear hga
          go_region_law ((refine step_pushT rfl (.tmp 121) (.tmp 123) 96 94 6 rfl w.heap.size Tryd.underlying96 48 (.agg #[.int .i64 0, .int .i64 0, .int .i64 0, .int .i64 0, .int .i64 0, .int .i64 0]) rfl (by omega) info94 (.slice lao m lcap) (r.cur.map sgRow) [.int .i64 (c + y0), .int .i64 L, .int .i64 0, .int .i64 (ol + y2), .int .i64 (oc + y3), .int .i64 nm] (by simp [Act.eval, Act.put]) (HD.out.1.lns.la.gb (gb_trans HX.out.2 (gb_trans (gb_drewN wc 1) (World.grownBy_alloc _ _ none))) (by cases Value.ownBlock _ <;> simp)) wc.drew.heap.size (by simp [Act.eval, Act.put]) (Blk.new _ _ _) rfl (one6 _ _ _ _ _ _) HB.out.1.1 HB.out.1.2 (HB.out.2 _) ?_; intro v' w4 ho4 hg4 hv4; obtain ⟨hS4, hf4⟩ := HP.out _ hg4; have t0 := hS4.1; obtain ⟨ao4, n4, cap4, hv4f⟩ := ho4.slice; subst hv4f; have H4 := Lib.hid (And.intro ho4 (And.intro hg4 hv4)); clear ho4 hg4 hv4))
          all_goals
            go_wp2_with fail
            go_meet
            have hgo : wr.grownBy w4 (Value.slice lao m lcap).ownBlock := gb_trans (gb_none (gb_trans HX.out.2 (gb_trans (World.grownBy_alloc _ _ _) (gb_drewN _ 1)))) H4.out.2.1
            have hsx := HX.out.2.size
            have hx := HD.out.1.lns.push (x := ⟨c + y0, L, ol + y2, oc + y3, nm⟩) H4.out.1 hgo (H4.out.2.2.imp id (fun e => ⟨_, e, by simp; omega⟩)) rfl
            rw [HN.out.1] at hx
            refine ⟨_, Lib.hid ⟨hx, (HD.out.1.bel.grown hgo hsz (fun g hg => (HD.out.1.lns.la.lt g hg).1)).setCell (p := ⟨go, nn, none⟩) hgB _⟩⟩
        case rest =>
          obtain ⟨lv', HX2⟩ := hcut
          have hin := HI.out.1.kept HX2.out.2
          have hend := HW.out.2.2.2.2.1
          have hzn := HI.out.2.1
          have hbe := HD.out.1.bt.2.2
          have hfe : t.foldl Rdr.tok (r.tok (.seg ds)) = re := HD.out.1.fin
          have hle := HD.out.1.le
          have hcp := HD.out.1.cap
          simp only [List.length_cons] at hle hcp
          rw [HTK.out] at hbe hfe
          have HE := Lib.hid (And.intro hbe (And.intro hfe hcp))
          clear hbe hfe hcp s0 s1 s2 s3 s4 s5 s6 hS
          rcases seg_end hend.1 hend.2 with ⟨rfl, he⟩ | ⟨he, hc59, u, rfl⟩ | ⟨he, hc44, ds', u, rfl, hdd⟩
          · obtain rfl : en = n := by omega
            clear hin hend hzn he
            go_wp2_with fail
            go_roundg 0
            case measure => simp at hle; omega
            case rel => exact ⟨_, [], en, cvs, lv', rfl, rfl, rfl, rfl, rfl, rfl, ⟨Nat.le_refl _, HW.out.2.2.2.2.1.1, Nat.le_refl _, HE.out.1, HE.out.2.1, HX2.out.1, HX2.out.2, by have := HE.out.2.2; simp at this ⊢; omega⟩⟩
          · obtain ⟨q', off', hx, hq, hcl⟩ := hin.at he
            cases hx
            rw [hc59] at hcl
            have hlt3 : en < n := by omega
            have hen2 : en ≤ n := by omega
            clear hin hend hzn he hc59 hq
            go_wp2_with fail
            go_roundg (u.length + 1)
            case measure => simp at hle; omega
            case rel => exact ⟨_, .nl :: u, en, cvs, lv', rfl, rfl, rfl, rfl, rfl, rfl, ⟨by simp, HW.out.2.2.2.2.1.1, hen2, HE.out.1, HE.out.2.1, HX2.out.1, HX2.out.2, by have := HE.out.2.2; simp at this ⊢; omega⟩⟩
          · obtain ⟨q', off', hx, hq, hcl⟩ := hin.at he
            cases hx
            rw [hc44] at hcl
            have hlt3 : en < n := by omega
            have hlen' := HE.out.1.2.1.1
            have hd0 := seg_dig hdd (by omega) 0 (by omega)
            simp only [List.take_zero, encs_nil, List.length_nil, Nat.add_zero] at hd0
            obtain ⟨q', off', hx, hq', hcl'⟩ := hin.at hd0.1
            cases hx
            obtain ⟨b0, b1, b2', b3⟩ := hd0.2
            obtain ⟨en1, hen1⟩ : ∃ e, en + 1 = e := ⟨_, rfl⟩
            rw [hen1] at hdd hcl' b0 b1 b2' b3 hd0
            have q59' : ((nth zs en1) == 59) = false := beq_eq_false_iff_ne.2 b3
            have q44' : ((nth zs en1) == 44) = false := beq_eq_false_iff_ne.2 b2'
            have hlt4 : en1 < n := by omega
            have hcast : (en : Int) + 1 = (en1 : Int) := by omega
            have HDD := Lib.hid (And.intro hdd hen1)
            generalize nth zs en1 = x5 at *
            clear hin hend hzn he hc44 hq hq' hd0 b0 b1 b2' b3 hdd hen1 hlen'
            go_wp2_with fail
            go_roundg (u.length + 1)
            case measure => simp at hle; omega
            case rel => exact ⟨_, .seg ds' :: u, en1, cvs, lv', rfl, rfl, rfl, rfl, rfl, rfl, ⟨by simp, HDD.out.1, by omega, HE.out.1, HE.out.2.1, HX2.out.1, HX2.out.2, by have := HE.out.2.2; simp at this ⊢; omega⟩⟩
end Go.Proofs.YtfbeeekakfllpaaDoor
