/-
  helpers.Joiner with its text: AddBytes adds, Done joins (two pieces or more). No statement of the seat is proved here.
-/
import Derived.Test.YtoegmcakolidbaaDoorJo
import Derived.Test.YtoegmcakolidbaaDoorOwnCopy
import Derived.Deep.LoopGhost
namespace Go.Proofs.YtoegmcakolidbaaDoor
open Go.RowKit
set_option linter.unusedVariables false
theorem Fr.inn {w w' : World} {g : Nat} {v v' : Value} {k : IntKind} {ao : Option Addr} {zs : List Int} (h : Fr w g v w' v') (hin : In k w ao zs) (hne : zs ≠ [] → ∀ b o, ao = some ⟨b, o, none⟩ → b ≠ g ∧ v.ownBlock ≠ some b) : In k w' ao zs := by
  rcases hin with h0 | ⟨b, off, h1, h2, h3⟩
  · exact .inl h0
  · rcases Nat.eq_zero_or_pos zs.length with hz | hz
    · exact .inl (List.eq_nil_of_length_eq_zero hz)
    · obtain ⟨n1, n2⟩ := hne (fun e => by rw [e] at hz; simp at hz) b off h1
      refine .inr ⟨b, off, h1, Nat.lt_of_lt_of_le h2 h.size, fun i hi => ?_⟩
      rw [← h3 i hi]
      exact World.cell?_of_block (h.block b h2 n1 n2)
/-- the joiner in block j with its pieces' texts xss -/
structure Jc (w : World) (j : Nat) (v : Value) (ts : List Pc) (xss : List (List Int)) (lb : Int) : Prop where
  jn : Jn w j v ts xss.flatten.length lb
  len : ts.length = xss.length
  pcs : ∀ k t xs, ts[k]? = some t → xss[k]? = some xs → t.n = xs.length ∧ t.off = (xss.take k).flatten.length ∧ In .u8 w t.ao xs ∧ (xs ≠ [] → ∀ b o, t.ao = some ⟨b, o, none⟩ → b ≠ j ∧ v.ownBlock ≠ some b)
theorem Jc.lt {w : World} {j : Nat} {v : Value} {ts : List Pc} {xss : List (List Int)} {lb : Int} (h : Jc w j v ts xss lb) : j + 1 ≤ w.heap.size := h.jn.blk.lt
theorem Jc.kept {w w' : World} {j : Nat} {v : Value} {ts : List Pc} {xss : List (List Int)} {lb : Int} (h : Jc w j v ts xss lb) (hb : Below w.heap.size w w') : Jc w' j v ts xss lb :=
  ⟨⟨h.jn.blk.kept hb, World.ownsRow.kept h.jn.own ⟨hb.os, hb.tape, hb.output, hb.size, fun i hi _ => hb.block i hi⟩ (row := none) (by cases v.ownBlock <;> simp)⟩, h.len, fun k t xs h1 h2 => by
    obtain ⟨a, b, c, d⟩ := h.pcs k t xs h1 h2
    exact ⟨a, b, c.kept hb, d⟩⟩
def lastB (lb : Int) (zs : List Int) : Int := if zs.length = 0 then lb else nth zs (zs.length - 1)
def IsJc (j : Nat) (v : Value) (xss : List (List Int)) (ts : List Pc) (zs : List Int) (lb : Int) (w : World) (e : Ending) (w' : World) : Prop := ∃ (v' : Value) (t : Pc), e = .returned (.tuple #[]) ∧ Jc w' j v' (ts ++ [t]) (xss ++ [zs]) (lastB lb zs) ∧ Fr w j v w' v'
theorem jc_add (j : Nat) (v : Value) (ts : List Pc) (xss : List (List Int)) (lb : Int) (ao : Option Addr) (n cap : Nat) (zs : List Int) (w : World) (h : Jc w j v ts xss lb) (hn : zs.length = n) (hin : In .u8 w ao zs) (hne : zs ≠ [] → ∀ b o, ao = some ⟨b, o, none⟩ → b ≠ j ∧ v.ownBlock ≠ some b)
    (h1 : n ≤ 16777216) (h2 : xss.flatten.length ≤ 16777216) (h3 : ts.length ≤ 1000) : Calls Tryd.prog 10 #[.pointer (some ⟨j, 0, none⟩), .slice ao n cap] w (IsJc j v xss ts zs lb w) := by
  refine (add_any j v ts xss.flatten.length lb ao n cap zs w h.jn hn hin h1 h2 h3).mono ?_
  rintro e w' ⟨v', he, hj, hf⟩
  have hlb : (if n = 0 then lb else nth zs (n - 1)) = lastB lb zs := by rw [← hn]; rfl
  rw [hlb] at hj
  have hsz := hf.size
  refine ⟨v', ⟨ao, n, cap, xss.flatten.length⟩, he, ⟨?_, by rw [List.length_append, List.length_append, h.len]; rfl, ?_⟩, hf⟩
  · rw [List.flatten_append, List.length_append]
    have : ([zs].flatten).length = n := by simp [hn]
    rw [this]; exact hj
  · intro k t xs hk1 hk2
    have hnw : ∀ b, b < w.heap.size → v.ownBlock ≠ some b → v'.ownBlock ≠ some b := by
      intro b hb hv
      rcases hf.nw with e | ⟨x, e, hx⟩
      · rw [e]; exact hv
      · rw [e]; intro c; cases c; omega
    rcases (show k < ts.length ∨ k = ts.length ∨ ts.length < k by omega) with hlt | rfl | hgt
    · rw [List.getElem?_append_left hlt] at hk1
      rw [List.getElem?_append_left (by rw [← h.len]; exact hlt)] at hk2
      obtain ⟨a, b, c, d⟩ := h.pcs k t xs hk1 hk2
      refine ⟨a, ?_, hf.inn c d, fun hx b' o' ho => ?_⟩
      · rw [b, List.take_append_of_le_length (by rw [← h.len]; omega)]
      · refine ⟨(d hx b' o' ho).1, hnw b' ?_ (d hx b' o' ho).2⟩
        rcases c with c | ⟨b2, o2, e2, h2, _⟩
        · exact absurd c hx
        · rw [e2] at ho; cases ho; exact h2
    · rw [List.getElem?_append_right (Nat.le_refl _), Nat.sub_self] at hk1
      rw [h.len, List.getElem?_append_right (Nat.le_refl _), Nat.sub_self] at hk2
      obtain rfl := Option.some.inj (show some _ = some t from hk1)
      obtain rfl := Option.some.inj (show some _ = some xs from hk2)
      refine ⟨hn.symm, ?_, hf.inn hin hne, fun hx b' o' ho => ?_⟩
      · show xss.flatten.length = _
        rw [h.len, List.take_append_of_le_length (Nat.le_refl _), List.take_of_length_le (Nat.le_refl _)]
      · refine ⟨(hne hx b' o' ho).1, hnw b' ?_ (hne hx b' o' ho).2⟩
        rcases hin with c | ⟨b2, o2, e2, h2, _⟩
        · exact absurd c hx
        · rw [e2] at ho; cases ho; exact h2
    · rw [List.getElem?_eq_none (by simp; omega)] at hk1; cases hk1
/-- 'make([]T, n)', n a number of the kind kk -/
theorem wpList_make_intsK {P : Program} (w : World) {ops : Array Oper} {rest : List Oper} {o : Oper} {a : Act} {Q : Exit → Act → World → Prop}
    (hg : o.guard = none) (l c : Operand) (t : TypeId) (hop : o.op = Op.makeSlice t l c) (kk : IntKind)
    (e : TypeId) (k : IntKind) (bytes : Nat) (h1 : P.underlying t = some (.slice e)) (h2 : (P.info? e).map (fun i => (i.zero, i.size, i.bytes)) = some (some (.int k 0), 1, bytes))
    (n : Nat) (hl : a.eval l = .int kk (n : Int)) (hc : a.eval c = .int kk (n : Int)) (b2 : bytes * n ≤ 281474976710656) (b3 : n ≤ maxLen)
    (hK : ∀ w', Blk w' w.heap.size e (ints k (List.replicate n 0)) → w.grownBy w' none → wpList P ops Q rest (a.put o.dst (.slice (some ⟨w.heap.size, 0, none⟩) n n)) w') :
    wpList P ops Q (o :: rest) a w := by
  obtain ⟨i, hi, hz, hs, hb⟩ := info_parts h2
  refine wpList_make_full w hg l c t hop w.heap.size e i (.int k 0) 1 h1 hi hz hs kk kk n n n hl hc rfl rfl (by rw [hb]; exact b2) b3 (Nat.le_refl _) ?_
  intro w' hown hgr
  refine hK w' ?_ hgr
  rw [made_ints] at hown
  obtain ⟨_, h | ⟨g, cap, cur, hv, _, hh, _, _, hcs, htk⟩⟩ := hown
  · simp at h
  · simp only [Value.slice.injEq, Option.some.injEq, Addr.mk.injEq, and_true, true_and] at hv
    obtain ⟨rfl, rfl⟩ := hv
    have : cur = ints k (List.replicate n 0) := by
      apply Array.ext'
      rw [← List.take_of_length_le (l := cur.toList) (i := n * 1) (by simp [hcs]), htk]
      simp
    rw [this] at hh
    exact hh
def IsDone (xs : List Int) (N : Nat) (w : World) (e : Ending) (w' : World) : Prop := ∃ g, e = .returned (.slice (some ⟨g, 0, none⟩) N N) ∧ w.heap.size ≤ g ∧ In .u8 w' (some ⟨g, 0, none⟩) xs ∧ Below w.heap.size w w'
/-- while the pieces are joined -/
def GDn (xss : List (List Int)) (N g : Nat) (w : World) (n : Nat) (k : Nat) (v66 v7 : Value) (wr : World) : Prop := ∃ i : Nat, v66 = .int .i64 i ∧ i ≤ n ∧ n - i ≤ k ∧ Blk wr g 5 (ints .u8 ((xss.take i).flatten ++ List.replicate (N - (xss.take i).flatten.length) 0)) ∧ Below g w wr
theorem OwnP.cells {w : World} {B : Nat} {vb cap tl : Nat} {ts : List Pc} (h : OwnP w B (.slice (some ⟨vb, 0, none⟩) tl cap) ts) (k : Nat) (t : Pc) (hk : ts[k]? = some t) : vb < w.heap.size ∧ w.cell? ⟨vb, k * 2, none⟩ = some (.slice t.ao t.n t.cap) ∧ w.cell? ⟨vb, k * 2 + 1, none⟩ = some (.int .u32 t.off) := by
  obtain ⟨h1, h2⟩ := h
  have hkl : k < ts.length := by
    rcases Nat.lt_or_ge k ts.length with h | h
    · exact h
    · rw [List.getElem?_eq_none h] at hk; cases hk
  rcases h2 with ⟨h, _⟩ | ⟨g, cap', cur, he, _, hh, hc, hm, hs, ht⟩
  · cases h
  · have heb : vb = g := by simp at he; exact he.1
    subst heb
    have key : ∀ i, i < 2 → cur[k * 2 + i]? = (t.cells)[i]? := by
      intro i hi
      have e1 : cur.toList[k * 2 + i]? = (pcRow ts)[k * 2 + i]? := by
        rw [← ht, List.getElem?_take, if_pos (by omega)]
      have e2 : (pcRow ts)[k * 2 + i]? = (t.cells)[i]? := by
        have hsp : ts = ts.take k ++ t :: ts.drop (k + 1) := by
          have hg : ts[k] = t := by rw [List.getElem?_eq_getElem hkl] at hk; exact Option.some.inj hk
          rw [← hg, ← List.drop_eq_getElem_cons hkl, List.take_append_drop]
        rw [hsp]
        show (pcRow (ts.take k ++ t :: ts.drop (k + 1)))[k * 2 + i]? = _
        rw [pcRow, List.flatMap_append, List.flatMap_cons]
        have hl : ((ts.take k).flatMap Pc.cells).length = k * 2 := by
          have := pcRow_length (ts.take k)
          rw [List.length_take, Nat.min_eq_left (by omega)] at this
          exact this
        rw [List.getElem?_append_right (by omega), hl, Nat.add_sub_cancel_left, List.getElem?_append_left (by show i < 2; omega)]
      rw [← e2, ← e1]; simp
    refine ⟨blk_lt hh, ?_, ?_⟩
    · rw [blk_cell hh]; exact key 0 (by omega)
    · rw [blk_cell hh]; exact key 1 (by omega)
theorem splice_txt (A X : List Int) (m : Nat) (h : X.length ≤ m) : splice (row .u8 (A ++ List.replicate m 0)) A.length (row .u8 X) = row .u8 ((A ++ X) ++ List.replicate (m - X.length) 0) := by
  unfold splice
  have e1 : (row .u8 (A ++ List.replicate m 0)).take A.length = row .u8 A := by rw [row_app, List.take_append_of_le_length (by rw [row_length]; omega)]; exact List.take_of_length_le (by rw [row_length]; omega)
  have e2 : (row .u8 (A ++ List.replicate m 0)).drop (A.length + X.length) = row .u8 (List.replicate (m - X.length) 0) := by
    rw [row_app, List.drop_append, row_length, List.drop_of_length_le (by rw [row_length]; omega), List.nil_append, Nat.add_sub_cancel_left]
    simp [row]
  rw [e1, row_length, e2, row_app, row_app, List.append_assoc]
theorem take_flat_le (xss : List (List Int)) (k : Nat) : (xss.take k).flatten.length ≤ xss.flatten.length := by
  have : xss.flatten = (xss.take k).flatten ++ (xss.drop k).flatten := by rw [← List.flatten_append, List.take_append_drop]
  rw [this, List.length_append]; omega
theorem take_flat_succ (xss : List (List Int)) (k : Nat) (xs : List Int) (h : xss[k]? = some xs) : (xss.take (k + 1)).flatten = (xss.take k).flatten ++ xs := by
  have hk : k < xss.length := by
    rcases Nat.lt_or_ge k xss.length with h' | h'
    · exact h'
    · rw [List.getElem?_eq_none h'] at h; cases h
  rw [List.getElem?_eq_getElem hk] at h
  rw [List.take_succ_eq_append_getElem hk, List.flatten_append, Option.some.inj h]; simp
set_option maxRecDepth 100000 in
set_option maxHeartbeats 4000000 in
theorem dn_any (j vb tl vcap N : Nat) (ts : List Pc) (xss : List (List Int)) (lb : Int) (w : World) (h : Jc w j (.slice (some ⟨vb, 0, none⟩) tl vcap) ts xss lb) (htl : ts.length = tl) (h2 : 2 ≤ tl) (h1000 : tl ≤ 1000) (hN : xss.flatten.length = N) (hN2 : N ≤ 16777216) :
    Calls Tryd.prog 14 #[.pointer (some ⟨j, 0, none⟩)] w (IsDone xss.flatten N w) := by
  have HJ := Lib.hid h
  have HT := Lib.hid (And.intro htl hN)
  have c0 := h.jn.blk.cell 0
  have c1 := h.jn.blk.cell 1
  have c2 := h.jn.blk.cell 2
  rw [hN] at c2
  simp at c0 c1 c2
  have hjl := h.lt
  have d0 : ((tl : Int) == 1) = false := beq_eq_false_iff_ne.2 (by omega)
  clear h htl hN
  go_enter Tryd.func14, Tryd.ntmps14
  go_upto_region 4 with (at_make; refine wpList_make_intsK _ rfl _ _ 22 rfl .u32 5 .u8 1 Tryd.underlying22 copyB_info N rfl rfl (by omega) (by unfold maxLen; omega) ?_; intro w1 hb hgr; have HM := Lib.hid (And.intro hb hgr); clear hb hgr)
  have HB1 : Hid (Below w.heap.size w w1) := Lib.hid ((Below.refl _ w).grown HM.out.2 (Nat.le_refl _) (fun k h => by cases h))
  have c0' := (HB1.out.cell (p := ⟨j, 0, none⟩) (by show j < _; omega)).trans c0
  have c1' := (HB1.out.cell (p := ⟨j, 1, none⟩) (by show j < _; omega)).trans c1
  have HST : Hid (GDn xss N w.heap.size w tl tl (.int .i64 (0 : Nat)) undef w1) := Lib.hid ⟨0, rfl, Nat.zero_le _, Nat.le_refl _, by simpa using HM.out.1, HB1.out⟩
  obtain ⟨g, hg⟩ : ∃ g, w.heap.size = g := ⟨_, rfl⟩
  rw [hg] at HST HB1 ⊢
  have HG := Lib.hid hg
  clear hg c0 c1 c2
  go_upto_region 5 with fail
  go_loopg [49, 5] 0 (fun k a c wr => a = .int .i64 (0 : Nat) ∧ wr = w1)
  case atStart => exact ⟨rfl, rfl⟩
  case round =>
  obtain ⟨rfl, rfl⟩ := hrel
  go_upto_region 10 with fail
  go_loopg [66, 7] tl (fun k a c wr => GDn xss N g w tl k a c wr)
  case atStart => exact HST.out
  case round =>
    obtain ⟨i, rfl, hi, hk, hblk, hbel⟩ := hrel
    have HK := Lib.hid (And.intro hblk hbel)
    clear hblk hbel
    have hjg : j < g := by have := HG.out; omega
    rcases (show i = tl ∨ i < tl by omega) with rfl | hlt
    · go_wp2_with fail
      go_ret
      have hNl := HT.out.2
      have htl := HT.out.1
      have e1 : xss.take i = xss := List.take_of_length_le (by rw [← HJ.out.len, htl]; exact Nat.le_refl _)
      have hb := HK.out.1
      rw [e1, hNl, Nat.sub_self] at hb
      simp only [List.replicate_zero, List.append_nil] at hb
      refine ⟨g, rfl, Nat.le_of_eq HG.out, .inr ⟨g, 0, rfl, hb.lt, fun k hk => ?_⟩, by rw [HG.out]; exact HK.out.2⟩
      rw [Nat.zero_add, hb.cell k]
      show (row .u8 xss.flatten).toArray[k]? = _
      rw [List.getElem?_toArray]
      exact row_at .u8 _ k hk
    · obtain ⟨t, ht⟩ : ∃ t, ts[i]? = some t := ⟨ts[i]'(by have := HT.out.1; omega), List.getElem?_eq_getElem _⟩
      obtain ⟨xs, hxs⟩ : ∃ xs, xss[i]? = some xs := ⟨xss[i]'(by have := HT.out.1; have := HJ.out.len; omega), List.getElem?_eq_getElem _⟩
      obtain ⟨q1, q2, q3, q4⟩ := HJ.out.pcs i t xs ht hxs
      obtain ⟨r1, r2, r3⟩ := HJ.out.jn.own.cells i t ht
      have hvg : vb < g := by have := HG.out; omega
      have r2' := (HK.out.2.cell (p := ⟨vb, i * 2, none⟩) hvg).trans r2
      have r3' := (HK.out.2.cell (p := ⟨vb, i * 2 + 1, none⟩) hvg).trans r3
      obtain ⟨ao, n, cp, off⟩ := t
      simp only at q1 q2 q3 q4 r2' r3'
      have hle : off + n ≤ N := by
        have h1 := take_flat_succ xss i xs hxs
        have h2 := take_flat_le xss (i + 1)
        rw [h1, List.length_append, ← q2, ← q1, HT.out.2] at h2
        exact h2
      have HQ := Lib.hid (And.intro q1 (And.intro q2 (And.intro q3 hxs)))
      have HR := Lib.hid ht
      clear q1 q2 q3 q4 r2 r3 ht hxs
      rcases (show off < N ∨ off = N by omega) with hoff | hoff
      · have doff : off ≤ N := by omega
        have doff2 : ((N : Int) - (off : Int)).toNat = N - off := by omega
        have doff3 : (off : Int) ≤ (N : Int) := by omega
        have doff4 : ¬ N = off := by omega
        go_upto_region 12 with fail
        obtain ⟨w2, hw2⟩ : ∃ w2, wr.alloc (.cells #[.slice ao n cp, .int .u32 off] 58) = w2 := ⟨_, rfl⟩
        have hgw : g < wr.heap.size := HK.out.1.lt
        have HN : Hid (w2.cell? ⟨wr.heap.size, 0, none⟩ = some (.slice ao n cp) ∧ w2.cell? ⟨wr.heap.size, 1, none⟩ = some (.int .u32 off)) := Lib.hid (by
          rw [← hw2]
          have := Blk.new wr 58 #[.slice ao n cp, .int .u32 off]
          exact ⟨this.cell 0, this.cell 1⟩)
        have HBK : Hid (w2.heap[g]? = some (.cells (row .u8 ((xss.take i).flatten ++ List.replicate (N - off) 0)).toArray 5 (0, 0))) := Lib.hid (by
          rw [← hw2, HQ.out.2.1]
          exact HK.out.1.alloc _)
        have HBD : Hid (Below g w w2.drew) := Lib.hid (by
          rw [← hw2]
          exact (HK.out.2.alloc (by omega) _).trans ⟨rfl, rfl, rfl, Nat.le_refl _, fun _ _ => rfl⟩)
        have HIN : Hid (In .u8 w2 ao xs) := Lib.hid (by
          rw [← hw2]
          exact HQ.out.2.2.1.kept (by rw [HG.out]; exact HK.out.2.alloc (by omega) _))
        rw [hw2]
        have HG2 : Hid (∃ x, wr.heap.size = x) := Lib.hid ⟨_, rfl⟩
        obtain ⟨x, hx⟩ := HG2.out
        rw [hx] at HN ⊢
        have n0 := HN.out.1
        have n1 := HN.out.2
        have hol : off = (xss.take i).flatten.length := HQ.out.2.1
        have HCL : Hid ((row .u8 xs).length = Nat.min n (N - off)) := Lib.hid (by
          rw [row_length, ← HQ.out.1]; exact (Nat.min_eq_left (by omega)).symm)
        have HPOS : Hid (0 < (row .u8 xs).length → some (⟨g, off, none⟩ : Addr) = some ⟨g, off, none⟩ ∧ ∃ ad, ao = some ad ∧ ∀ k v, (row .u8 xs)[k]? = some v → w2.drew.cell? (ad.add k) = some v) := Lib.hid (fun hp => by
          refine ⟨rfl, ?_⟩
          rcases HIN.out with hz | ⟨b, o, h1, h2, h3⟩
          · rw [hz] at hp; simp [row] at hp
          · refine ⟨⟨b, o, none⟩, h1, fun k v hk => ?_⟩
            have hkl : k < xs.length := by
              rcases Nat.lt_or_ge k xs.length with h | h
              · exact h
              · rw [List.getElem?_eq_none (by rw [row_length]; exact h)] at hk; cases hk
            rw [row_at .u8 xs k hkl] at hk
            have e1 : (⟨b, o, none⟩ : Addr).add k = ⟨b, o + k, none⟩ := by unfold Addr.add; split <;> simp_all
            rw [e1, ← hk]
            exact h3 k hkl)
        have HFIT : Hid (off + (row .u8 xs).length ≤ (row .u8 ((xss.take i).flatten ++ List.replicate (N - off) 0)).length) := Lib.hid (by
          rw [row_length, row_length, List.length_append, List.length_replicate, ← hol, ← HQ.out.1]; omega)
        have HONE : Hid (∀ v ∈ row .u8 xs, v.oneCell' = true) := Lib.hid (fun v hv => by
          simp only [row, List.mem_map] at hv
          obtain ⟨z, _, rfl⟩ := hv
          rfl)
        clear hol hw2
        go_region_law (refine step_copy_splice rfl (.tmp 73) (.tmp 75) 22 22 rfl 5 Tryd.underlying22 rfl (some ⟨g, off, none⟩) ao (N - off) (N - off) n cp (by simp [Act.eval, go_sem]) (by simp [Act.eval, go_sem]) g off (row .u8 ((xss.take i).flatten ++ List.replicate (N - off) 0)) 5 HBK.out (row .u8 xs) HCL.out HPOS.out HFIT.out HONE.out g w HBD.out (Nat.le_refl _) ?_; intro w3 h3 hb3; rw [row_length]; have H3 := Lib.hid (And.intro h3.out hb3); clear h3 hb3)
        all_goals
          go_wp2_with fail
          go_roundg (tl - (i + 1))
          case measure => omega
          case rel =>
            have hs := H3.out.1
            have hol : off = (xss.take i).flatten.length := HQ.out.2.1
            have hnl : xs.length = n := HQ.out.1.symm
            have hsp := splice_txt (xss.take i).flatten xs (N - off) (by omega)
            rw [← hol] at hsp
            rw [hsp] at hs
            have hap := take_flat_succ xss i xs HQ.out.2.2.2
            refine ⟨i + 1, rfl, by omega, by omega, ?_, H3.out.2⟩
            rw [hap]
            have : N - ((xss.take i).flatten ++ xs).length = N - off - xs.length := by rw [List.length_append, ← hol]; omega
            rw [this]
            exact hs
      · subst hoff
        have doff2 : ((off : Int) - (off : Int)).toNat = 0 := by omega
        go_upto_region 12 with fail
        obtain ⟨w2, hw2⟩ : ∃ w2, wr.alloc (.cells #[.slice ao n cp, .int .u32 off] 58) = w2 := ⟨_, rfl⟩
        have hgw : g < wr.heap.size := HK.out.1.lt
        have HN : Hid (w2.cell? ⟨wr.heap.size, 0, none⟩ = some (.slice ao n cp) ∧ w2.cell? ⟨wr.heap.size, 1, none⟩ = some (.int .u32 off)) := Lib.hid (by
          rw [← hw2]
          have := Blk.new wr 58 #[.slice ao n cp, .int .u32 off]
          exact ⟨this.cell 0, this.cell 1⟩)
        have HBK : Hid (w2.heap[g]? = some (.cells (row .u8 ((xss.take i).flatten ++ List.replicate (off - off) 0)).toArray 5 (0, 0))) := Lib.hid (by
          rw [← hw2]
          have hq := HK.out.1.alloc (.cells #[.slice ao n cp, .int .u32 off] 58)
          rw [← (show off = (xss.take i).flatten.length from HQ.out.2.1)] at hq
          exact hq)
        have HBD : Hid (Below g w w2.drew) := Lib.hid (by
          rw [← hw2]
          exact (HK.out.2.alloc (by omega) _).trans ⟨rfl, rfl, rfl, Nat.le_refl _, fun _ _ => rfl⟩)
        have HIN : Hid (In .u8 w2 ao xs) := Lib.hid (by
          rw [← hw2]
          exact HQ.out.2.2.1.kept (by rw [HG.out]; exact HK.out.2.alloc (by omega) _))
        rw [hw2]
        have HG2 : Hid (∃ x, wr.heap.size = x) := Lib.hid ⟨_, rfl⟩
        obtain ⟨x, hx⟩ := HG2.out
        rw [hx] at HN ⊢
        have n0 := HN.out.1
        have n1 := HN.out.2
        have hol : off = (xss.take i).flatten.length := HQ.out.2.1
        have HCL : Hid ((row .u8 xs).length = Nat.min n (off - off)) := Lib.hid (by
          rw [row_length, ← HQ.out.1]; exact (Nat.min_eq_left (by omega)).symm)
        have HPOS : Hid (0 < (row .u8 xs).length → some (⟨g, 0, none⟩ : Addr) = some ⟨g, off, none⟩ ∧ ∃ ad, ao = some ad ∧ ∀ k v, (row .u8 xs)[k]? = some v → w2.drew.cell? (ad.add k) = some v) := Lib.hid (fun hp => by
          exact absurd hp (by rw [row_length, ← HQ.out.1]; omega))
        have HFIT : Hid (off + (row .u8 xs).length ≤ (row .u8 ((xss.take i).flatten ++ List.replicate (off - off) 0)).length) := Lib.hid (by
          rw [row_length, row_length, List.length_append, List.length_replicate, ← hol, ← HQ.out.1]; omega)
        have HONE : Hid (∀ v ∈ row .u8 xs, v.oneCell' = true) := Lib.hid (fun v hv => by
          simp only [row, List.mem_map] at hv
          obtain ⟨z, _, rfl⟩ := hv
          rfl)
        clear hol hw2
        go_region_law (refine step_copy_splice rfl (.tmp 73) (.tmp 75) 22 22 rfl 5 Tryd.underlying22 rfl (some ⟨g, 0, none⟩) ao (off - off) (off - off) n cp (by simp [Act.eval, go_sem]) (by simp [Act.eval, go_sem]) g off (row .u8 ((xss.take i).flatten ++ List.replicate (off - off) 0)) 5 HBK.out (row .u8 xs) HCL.out HPOS.out HFIT.out HONE.out g w HBD.out (Nat.le_refl _) ?_; intro w3 h3 hb3; rw [row_length]; have H3 := Lib.hid (And.intro h3.out hb3); clear h3 hb3)
        all_goals
          go_wp2_with fail
          go_roundg (tl - (i + 1))
          case measure => omega
          case rel =>
            have hs := H3.out.1
            have hol : off = (xss.take i).flatten.length := HQ.out.2.1
            have hnl : xs.length = n := HQ.out.1.symm
            have hsp := splice_txt (xss.take i).flatten xs (off - off) (by omega)
            rw [← hol] at hsp
            rw [hsp] at hs
            have hap := take_flat_succ xss i xs HQ.out.2.2.2
            refine ⟨i + 1, rfl, by omega, by omega, ?_, H3.out.2⟩
            rw [hap]
            have : off - ((xss.take i).flatten ++ xs).length = off - off - xs.length := by rw [List.length_append, ← hol]; omega
            rw [this]
            exact hs
end Go.Proofs.YtoegmcakolidbaaDoor
