/-
  helpers.internalQuote at the names, walked. No statement of the seat is proved here.
-/
import Derived.Test.YtfbeeekakfllpaaDoorIq
import Derived.Test.YtfbeeekakfllpaaDoorEnc
import Derived.Deep.CutBlock
import Derived.StillTailTactics
import Derived.Deep.RegionLaw
import Derived.Lib.JoinLaws
import Derived.Lib.AppendStr
namespace Go.Proofs.YtfbeeekakfllpaaDoor
open Go.RowKit
set_option linter.unusedVariables false
set_option linter.unusedSimpArgs false
/-- 'append(v, s...)', s a string -/
theorem wpList_pushS {ops : Array Oper} {rest : List Oper} {o : Oper} {a : Act} {Q : Exit → Act → World → Prop} (w : World) (hgd : o.guard = none) (sl x : Operand)
    (ho : o.op = .call { callee := .builtin .append, args := #[sl, x], argTypes := #[22, 9] }) (B : Nat) (v : Value) (zs : List Int) (hs : a.eval sl = v) (hown : Own .u8 5 w B v zs) (st : ByteArray) (ys : List Int) (hys : Lib.strCells st = row .u8 ys) (hx : a.eval x = .string st)
    (hl : zs.length + st.size ≤ 1073741824) (hB : B ≤ w.heap.size)
    (h : ∀ v' w', Own .u8 5 w' B v' (zs ++ ys) → w.grownBy w' v.ownBlock → wpList Tryd.prog ops Q rest (a.put o.dst v') w') : wpList Tryd.prog ops Q (o :: rest) a w := by
  obtain ⟨i0, hi, hz0, hz1, hz2⟩ := info_parts copyB_info
  refine Lib.wpList_append_own_string w hgd sl x 22 9 ho B 5 i0 Tryd.underlying22 Tryd.underlying9 hi hz0 hz1 hz2 v zs.length (row .u8 zs) hs hown st hx (by unfold maxLen; omega) (by omega) hB ?_
  intro v' w' h1 h2 h3
  refine h v' w' ?_ h2
  have e : st.size = ys.length := by
    have := congrArg List.length hys
    rw [Lib.strCells_length, row_length] at this
    exact this
  show w'.ownsRow B 5 1 v' (zs ++ ys).length (row .u8 (zs ++ ys))
  rw [row_app, List.length_append, ← hys, ← e]
  exact h1
/-- 'append(v, ..)', the elements in a new block -/
theorem wpList_pushL {ops : Array Oper} {rest : List Oper} {o : Oper} {a : Act} {Q : Exit → Act → World → Prop} (w0 : World) (hgd : o.guard = none) (s x : Operand)
    (ho : o.op = .call { callee := .builtin .append, args := #[s, x], argTypes := #[22, 22] }) (B : Nat) (v : Value) (zs ys : List Int) (hs : a.eval s = v) (hown : Own .u8 5 w0 B v zs)
    (hx : a.eval x = .slice (some ⟨w0.heap.size, 0, none⟩) ys.length ys.length) (hl : zs.length + ys.length ≤ 1073741824) (hB : B ≤ w0.heap.size)
    (h : ∀ v' w', Own .u8 5 w' B v' (zs ++ ys) → w0.grownBy w' v.ownBlock → wpList Tryd.prog ops Q rest (a.put o.dst v') w') : wpList Tryd.prog ops Q (o :: rest) a (w0.alloc (.cells (ints .u8 ys) 5)) := by
  obtain ⟨i0, hi, hz0, hz1, hz2⟩ := info_parts copyB_info
  refine wpList_append_own_at _ hgd s x 22 ho B 5 i0 (.int .u8 0) 1 1 Tryd.underlying22 hi hz0 hz1 hz2 rfl (by decide) v zs.length (row .u8 zs) hs (World.ownsRow.alloc hown _) ⟨w0.heap.size, 0, none⟩ ys.length ys.length (row .u8 ys) hx (by rw [row_length, Nat.mul_one]) ?_ (fun u hu => by
    unfold row at hu; rw [List.mem_map] at hu; obtain ⟨z, _, rfl⟩ := hu; rfl) (by unfold maxLen; omega) (by omega) (by simp; omega) ?_
  · intro j u hj
    have e : (⟨w0.heap.size, 0, none⟩ : Addr).add j = ⟨w0.heap.size, j, none⟩ := by unfold Addr.add; split <;> simp_all
    rw [e, blk_cell (blk_new w0 _) j, ← hj]
    simp [ints, row]
  · intro v' w' h1 h2 h3 h4
    refine h v' w' ?_ (gb_trans (World.grownBy_alloc w0 _ _) h2)
    show w'.ownsRow B 5 1 v' (zs ++ ys).length (row .u8 (zs ++ ys))
    rw [row_app, List.length_append]; exact h1
/-- .. as one step of a region that draws -/
theorem step_pushL {ops : Array Oper} {o : Oper} {a : Act} {w : World} {K : Act → World → Prop} {Q : Exit → Act → World → Prop} {E : Prop} (hgd : o.guard = none) (s x : Operand)
    (ho : o.op = .call { callee := .builtin .append, args := #[s, x], argTypes := #[22, 22] }) (B : Nat) (v : Value) (zs ys : List Int) (hs : a.eval s = v) (hown : Own .u8 5 w B v zs)
    (g : Nat) (hx : a.eval x = .slice (some ⟨g, 0, none⟩) ys.length ys.length) (hb : Blk w g 5 (ints .u8 ys)) (hl : zs.length + ys.length ≤ 1073741824) (hB : B ≤ w.heap.size)
    (h : ∀ v' w', Own .u8 5 w' B v' (zs ++ ys) → w.grownBy w' v.ownBlock → K (a.put o.dst v') w') : if Region.wanted o (yielded ops a.tmps) = true then Oper.wp Tryd.prog o a w K Q else E := by
  have hw : Region.wanted o (yielded ops a.tmps) = true := by simp [Region.wanted, hgd]
  rw [if_pos hw]
  obtain ⟨i0, hi, hz0, hz1, hz2⟩ := info_parts copyB_info
  obtain ⟨v', w', hrn, h2, h3, h4, h5⟩ := run_append_own_at (P := Tryd.prog) w B 22 o.type 5 i0 (.int .u8 0) 1 1 Tryd.underlying22 hi hz0 hz1 hz2 rfl (by decide) v zs.length (row .u8 zs) hown ⟨g, 0, none⟩ ys.length ys.length (row .u8 ys) (by rw [row_length, Nat.mul_one]) (by
    intro j u hj
    have e : (⟨g, 0, none⟩ : Addr).add j = ⟨g, j, none⟩ := by unfold Addr.add; split <;> simp_all
    rw [e, hb.cell j, ← hj]; simp [ints, row]) (fun u hu => by
    unfold row at hu; rw [List.mem_map] at hu; obtain ⟨z, _, rfl⟩ := hu; rfl) (by unfold maxLen; omega) (by omega) hB
  unfold Oper.wp
  simp only [execOp, ho, resolve, invoke, builtin, Sem.run_bind, Sem.run_pure, Result.andThen_ok, List.map_toArray, List.map_cons, List.map_nil, hs, hx, hrn]
  refine h v' w' ?_ h3
  show w'.ownsRow B 5 1 v' (zs ++ ys).length (row .u8 (zs ++ ys))
  rw [row_app, List.length_append]; exact h2
def bts (s : ByteArray) (i j : Nat) : List Int := (List.range (j - i)).map fun d => (byteAt s (i + d) : Int)
theorem bts_next (s : ByteArray) (i j d : Nat) (h : i ≤ j) : bts s i (j + d) = bts s i j ++ (List.range d).map fun x => (byteAt s (j + x) : Int) := by
  unfold bts
  rw [show j + d - i = (j - i) + d by omega, List.range_add, List.map_append, List.map_map]
  congr 1
  apply List.map_congr_left
  intro x _
  simp only [Function.comp]
  rw [show i + (j - i + x) = j + x by omega]
theorem bts_self (s : ByteArray) (i : Nat) : bts s i i = [] := by simp [bts]
theorem strCells_ext (s : ByteArray) (i j : Nat) (h : i ≤ j) (hj : j ≤ s.size) : Lib.strCells (s.extract i j) = row .u8 (bts s i j) := by
  apply List.ext_getElem
  · rw [Lib.strCells_length, row_length]; simp [bts]; omega
  · intro d h1 h2
    have hd : d < j - i := by rw [Lib.strCells_length] at h1; simp at h1; omega
    simp [Lib.strCells, row, bts]
    rw [← byteAt_get s (i + d) (by omega)]
    rfl
theorem rl_any (s : ByteArray) (i : Nat) (h : RC s i) : Lib.runeLen (cpt s i : Nat) = (wd s i : Nat) := by
  rcases h with ⟨h0, h1, h2, _⟩ | ⟨h0, h1, _⟩
  · unfold Lib.runeLen; rw [h2]; (repeat' split) <;> omega
  · rw [h0, h1]; decide
structure Gq (s : ByteArray) (asc : Bool) (w : World) (i : Nat) (v : Value) (wr : World) : Prop where
  own : Own .u8 5 wr w.heap.size v (34 :: qx s asc i)
  bel : Below w.heap.size w wr
theorem Gq.push {s : ByteArray} {asc : Bool} {w : World} {i : Nat} {v v' : Value} {wr w' : World} {j : Nat} {ys : List Int} (h : Gq s asc w i v wr) (ho : Own .u8 5 w' w.heap.size v' (34 :: qx s asc i ++ ys)) (hg : wr.grownBy w' v.ownBlock) (hy : qx s asc j = qx s asc i ++ ys) : Gq s asc w j v' w' :=
  ⟨by rw [hy]; exact ho, h.bel.grown hg h.bel.size (fun g hg => (h.own.lt g hg).1)⟩
def IsQ (s : ByteArray) (asc : Bool) (w : World) (e : Ending) (w' : World) : Prop := ∃ v, e = .returned v ∧ Own .u8 5 w' w.heap.size v (qt s asc) ∧ Below w.heap.size w w'
theorem qx_len (s : ByteArray) (asc : Bool) (i : Nat) (h : i ≤ s.size) : (qx s asc i).length ≤ i * (6 + s.size) := by
  induction i with
  | zero => simp [qx]
  | succ i ih =>
    have h1 := ih (by omega)
    rw [qx]
    split
    · have := qr_len s asc i (by omega)
      have := wd_le s i (by omega)
      rw [List.length_append, Nat.succ_mul]; omega
    · rw [Nat.succ_mul]; omega
set_option maxRecDepth 100000 in
set_option maxHeartbeats 4000000 in
theorem iq_any (s : ByteArray) (asc : Bool) (w : World) (hs : Nmc s) (hz : s.size ≤ 1000) (h233 : ∀ i, i < s.size → ns s i = i → ¬ (cpt s i = 233 ∧ asc = true)) : Calls Tryd.prog 44 #[.string s, .bool asc, .int .u8 34] w (IsQ s asc w) := by
  have HS := Lib.hid hs
  have H233 := Lib.hid h233
  clear hs h233
  go_enter Tryd.func44, Tryd.ntmps44
  go_upto_block 0 with fail
  go_cut [7] (fun x wx => ∃ L : Nat, x = .int .i64 L ∧ L ≤ 12002 ∧ Below w.heap.size w wx)
  case first =>
    go_wp2_with fail
    obtain ⟨r, hr⟩ : ∃ r, w.heap.size = r := ⟨_, rfl⟩
    have HR := Lib.hid hr
    rw [hr]
    clear hr
    go_loopg [7] s.size (fun k x wr => ∃ i L : Nat, Bd s i ∧ s.size - i ≤ k ∧ x = .int .i64 L ∧ L ≤ 2 + 12 * i ∧ It wr r s i ∧ Below w.heap.size w wr)
    case atStart =>
      have hrr := HR.out
      exact ⟨0, 2, Bd.zero s, by omega, rfl, by omega, by rw [← hrr]; exact It.new w s, (Below.refl _ w).alloc (Nat.le_refl _) _⟩
    case round =>
      obtain ⟨i, L, hbd, hk, rfl, hL, hit, hbel⟩ := hrel
      have HB := Lib.hid (And.intro hbd (And.intro hit hbel))
      have hiz := hbd.le
      clear hbd hit hbel
      rcases (show i = s.size ∨ i < s.size by omega) with rfl | hlt
      · go_upto_region 24 with (refine wpList_next_end rfl _ rfl r s s.size rfl HB.out.2.1 (Nat.lt_irrefl _) ?_)
        rw [← HR.out]
        go_meet
        exact ⟨L, rfl, by omega, HB.out.2.2⟩
      · go_upto_region 4 with (refine wpList_next_at rfl _ rfl r s i rfl HB.out.2.1 hlt ?_; intro w2 hit2 hg2)
        have hcp : (Utf8.decode s i).1 = cpt s i := rfl
        have hnx : i + (Utf8.decode s i).2 = i + wd s i := rfl
        rw [hcp]
        rw [hnx] at hit2
        clear hcp hnx
        have hwp := wd_pos s i hlt
        have hwl := wd_le s i hlt
        have hrc := HS.out i hlt HB.out.1.at_
        have HX : Hid (Bd s (i + wd s i) ∧ It w2 r s (i + wd s i) ∧ Below w.heap.size w w2) := Lib.hid ⟨HB.out.1.next hlt, hit2, HB.out.2.2.grown hg2 HB.out.2.2.size (fun g e => by cases e; have := HR.out; omega)⟩
        have HRC := Lib.hid hrc
        have hrl := rl_any s i hrc
        have hcl : cpt s i ≤ 233 := by rcases hrc with h | h <;> omega
        clear hit2 hg2 hrc
        obtain ⟨wi, hwi⟩ : ∃ x, wd s i = x := ⟨_, rfl⟩
        rw [hwi] at hrl HX hwp hwl
        have HWI := Lib.hid hwi
        clear hwi
        have hw2 : wi ≤ 1000 := by omega
        by_cases hp : prn s asc i = true
        · have HP := Lib.hid hp
          clear hp
          go_wp2_with (first
            | (go_at_call 47; refine (cp_any s asc i _ HRC.out).mono ?_; rintro e w3 ⟨rfl, rfl⟩; rw [HP.out])
            | (go_at_call 48; refine (Tryd.utf8_RuneLen _ _).mono ?_; rintro e w3 ⟨rfl, rfl⟩; rw [hrl]))
          go_roundg (s.size - (i + wi))
          case measure => omega
          case rel => exact ⟨i + wi, L + wi, HX.out.1, Nat.le_refl _, by go_num, by omega, HX.out.2.1, HX.out.2.2⟩
        · have HP : Hid (prn s asc i = false) := Lib.hid (by simpa using hp)
          have hc3 : cpt s i = 34 ∨ cpt s i = 92 ∨ cpt s i = 233 := by
            rcases HRC.out with h | h
            · by_cases h1 : cpt s i = 34
              · exact .inl h1
              · by_cases h2 : cpt s i = 92
                · exact .inr (.inl h2)
                · exact absurd (by unfold prn; simp [h1, h2]; omega) hp
            · exact .inr (.inr h.1)
          clear hp hrl
          have HCP : Hid (∀ w3 : World, Calls Tryd.prog 47 #[.int .i32 (cpt s i : Nat), .bool asc] w3 fun e w' => e = .returned (.bool false) ∧ w' = w3) := Lib.hid (fun w3 => by have := cp_any s asc i w3 HRC.out; rwa [HP.out] at this)
          generalize cpt s i = c at *
          rcases hc3 with rfl | rfl | rfl
          all_goals
            go_wp2_with (go_at_call 47; refine (HCP.out _).mono ?_; rintro e w3 ⟨rfl, rfl⟩)
            go_roundg (s.size - (i + wi))
            case measure => omega
          case rel => exact ⟨i + wi, L + 2, HX.out.1, Nat.le_refl _, by go_num, by omega, HX.out.2.1, HX.out.2.2⟩
          case rel => exact ⟨i + wi, L + 2, HX.out.1, Nat.le_refl _, by go_num, by omega, HX.out.2.1, HX.out.2.2⟩
          case rel => exact ⟨i + wi, L + 6, HX.out.1, Nat.le_refl _, by go_num, by omega, HX.out.2.1, HX.out.2.2⟩
  case rest =>
    obtain ⟨L, rfl, hL, hbel⟩ := hcut
    have hmk := run_make_room (P := Tryd.prog) 22 5 (.int .u8 0) 1 Tryd.underlying22 copyB_info rfl .i64 .i64 L (by omega) (by omega) wc
    have HOW : Hid (Own .u8 5 (wc.alloc (.cells (madeCells #[.int .u8 0] L) 5)) w.heap.size (.slice (some ⟨wc.heap.size, 0, none⟩) 0 L) []) := Lib.hid ⟨by simp [row], .inr ⟨wc.heap.size, L, _, rfl, hbel.size, blk_new _ _, by simp, by unfold maxLen; omega, by simp [madeCells], by simp [row]⟩⟩
    have HBE := Lib.hid hbel
    obtain ⟨W, hW⟩ : ∃ W, wc.alloc (.cells (madeCells #[.int .u8 0] L) 5) = W := ⟨_, rfl⟩
    have HW := Lib.hid hW
    rw [hW] at hmk HOW
    obtain ⟨g0, hg0⟩ : ∃ g0, wc.heap.size = g0 := ⟨_, rfl⟩
    rw [hg0] at hmk HOW
    have HG := Lib.hid hg0
    clear hW hg0 hbel
    go_upto_region 28 with (at_builtin; (refine wpList_push W rfl (.tmp 62) (.tmp 64) 22 rfl w.heap.size 5 .u8 1 Tryd.underlying22 copyB_info _ [] 34 rfl HOW.out rfl (by simp [maxLen]) (by simp) (by have := HBE.out.size; rw [← HW.out]; simp; omega) ?_; intro v' w6 ho6 hg6 hn6; have HQ0 : Hid (Gq s asc w 0 v' w6) := Lib.hid ⟨ho6, hg6.below (by rw [← HW.out]; exact HBE.out.alloc HBE.out.size _) (by rw [← HW.out]; have := HBE.out.size; simp; omega) (fun g hg => (HOW.out.lt g hg).1)⟩; clear ho6 hg6 hn6 hmk))
    go_wp2_with fail
    go_loopg [10, 11] s.size (fun k x y wr => ∃ i : Nat, Bd s i ∧ s.size - i ≤ k ∧ y = .int .i64 i ∧ Hid (Gq s asc w i x wr))
    case atStart => exact ⟨0, Bd.zero s, by omega, rfl, HQ0⟩
    case round =>
      obtain ⟨i, hbd, hk, rfl, HQ⟩ := hrel
      have hiz := hbd.le
      have HB := Lib.hid hbd
      have hqx := qx_len s asc i hiz
      have HLN : Hid (i * (6 + s.size) ≤ 1006000) := Lib.hid (by have := Nat.mul_le_mul hiz (Nat.le_refl (6 + s.size)); have := Nat.mul_le_mul hz (show 6 + s.size ≤ 1006 by omega); omega)
      have HQX := Lib.hid hqx
      clear hbd hqx
      rcases (show i = s.size ∨ i < s.size by omega) with rfl | hlt
      · go_wp2_with (at_builtin; (refine wpList_push _ rfl (.tmp 227) (.tmp 229) 22 rfl w.heap.size 5 .u8 1 Tryd.underlying22 copyB_info _ (34 :: qx s asc s.size) 34 rfl HQ.out.own rfl (by have := HQX.out; have := HLN.out; simp [maxLen]; omega) (by have := HQX.out; have := HLN.out; simp; omega) HQ.out.bel.size ?_; intro v' w6 ho6 hg6 hn6))
        go_ret
        exact ⟨v', rfl, ho6, hg6.below HQ.out.bel HQ.out.bel.size (fun g hg => (HQ.out.own.lt g hg).1)⟩
      · have hrc := HS.out i hlt HB.out.at_
        have hnx := qx_next s asc i HB.out.at_ hlt
        have hwp := wd_pos s i hlt
        have hwl := wd_le s i hlt
        have HRC := Lib.hid hrc
        have HX : Hid (Bd s (i + wd s i) ∧ qx s asc (i + wd s i) = qx s asc i ++ qr s asc i) := Lib.hid ⟨HB.out.next hlt, hnx⟩
        have hcl : cpt s i ≤ 233 := by rcases hrc with h | h <;> omega
        have HDW : Hid (∀ w3 : World, Calls Tryd.prog 49 #[.string (s.extract i s.size)] w3 fun e w' => e = .returned (.tuple #[.int .i32 (cpt s i : Nat), .int .i64 (wd s i : Nat)]) ∧ w' = w3) := Lib.hid (fun w3 => dw_any s i w3 hlt hrc)
        clear hrc hnx
        by_cases hp : prn s asc i = true
        · have HP := Lib.hid hp
          clear hp
          go_upto_block 5 with (first
            | (go_at_call 49; refine (HDW.out _).mono ?_; rintro e w3 ⟨rfl, rfl⟩)
            | (go_at_call 47; refine (cp_any s asc i _ HRC.out).mono ?_; rintro e w3 ⟨rfl, rfl⟩; rw [HP.out]))
          go_cut [11] (fun x wx => ∃ j : Nat, x = .int .i64 j ∧ i < j ∧ Bd s j ∧ qx s asc j = qx s asc i ++ bts s i j ∧ wx = w3)
          case first =>
            go_wp2_with fail
            go_loopg [11] s.size (fun k x wx => ∃ j : Nat, x = .int .i64 j ∧ i < j ∧ s.size - j ≤ k ∧ Hid (Bd s j ∧ qx s asc j = qx s asc i ++ bts s i j ∧ wx = w3))
            case atStart =>
              refine ⟨i + wd s i, by go_num, by omega, by omega, Lib.hid ⟨HX.out.1, ?_, rfl⟩⟩
              rw [HX.out.2, qr_prn HP.out, bts_next s i i _ (Nat.le_refl _), bts_self, List.nil_append]
            case round =>
              obtain ⟨j, rfl, hij, hjk, HJ⟩ := hrel
              have hjz := HJ.out.1.le
              rcases (show j = s.size ∨ j < s.size by omega) with rfl | hjl
              · go_wp2_with fail
                go_meet
                exact ⟨_, rfl, hij, HJ.out⟩
              · have hrc := HS.out j hjl HJ.out.1.at_
                have HRJ := Lib.hid hrc
                have hwpj := wd_pos s j hjl
                have hwlj := wd_le s j hjl
                have hclj : cpt s j ≤ 233 := by rcases hrc with h | h <;> omega
                have HDJ : Hid (∀ w3 : World, Calls Tryd.prog 49 #[.string (s.extract j s.size)] w3 fun e w' => e = .returned (.tuple #[.int .i32 (cpt s j : Nat), .int .i64 (wd s j : Nat)]) ∧ w' = w3) := Lib.hid (fun w3 => dw_any s j w3 hjl hrc)
                clear hrc
                by_cases hpj : prn s asc j = true
                · have HPJ := Lib.hid hpj
                  clear hpj
                  go_wp2_with (first
                    | (go_at_call 49; refine (HDJ.out _).mono ?_; rintro e w4 ⟨rfl, rfl⟩)
                    | (go_at_call 47; refine (cp_any s asc j _ HRJ.out).mono ?_; rintro e w4 ⟨rfl, rfl⟩; rw [HPJ.out]))
                  go_roundg (s.size - (j + wd s j))
                  case measure => omega
                  case rel =>
                    refine ⟨j + wd s j, by go_num, by omega, Nat.le_refl _, Lib.hid ⟨HJ.out.1.next hjl, ?_, HJ.out.2.2⟩⟩
                    rw [qx_next s asc j HJ.out.1.at_ hjl, HJ.out.2.1, qr_prn HPJ.out, bts_next s i j _ (by omega), List.append_assoc]
                · have HPJ : Hid (prn s asc j = false) := Lib.hid (by simpa using hpj)
                  clear hpj
                  go_wp2_with (first
                    | (go_at_call 49; refine (HDJ.out _).mono ?_; rintro e w4 ⟨rfl, rfl⟩)
                    | (go_at_call 47; refine (cp_any s asc j _ HRJ.out).mono ?_; rintro e w4 ⟨rfl, rfl⟩; rw [HPJ.out]))
                  go_meet
                  exact ⟨j, rfl, hij, HJ.out⟩
          case rest =>
            obtain ⟨j, rfl, hij, hbj, hqj, hwj⟩ := hcut
            have hjz := hbj.le
            have HJ := Lib.hid (And.intro hbj (And.intro hqj hwj))
            have hlen : (34 :: qx s asc i).length ≤ 1006001 := by have := HQX.out; have := HLN.out; simp; omega
            rw [hwj]
            clear hbj hqj hwj
            go_wp2_with (at_builtin; (refine wpList_pushS _ rfl (.tmp 100) (.tmp 104) rfl w.heap.size _ (34 :: qx s asc i) rfl HQ.out.own (s.extract i j) (bts s i j) (strCells_ext s i j (by omega) hjz) rfl (by simp only [ByteArray.size_extract]; omega) HQ.out.bel.size ?_; intro v' w6 ho6 hg6; have HG6 : Hid (Gq s asc w j v' w6) := Lib.hid (HQ.out.push ho6 hg6 HJ.out.2.1); clear ho6 hg6))
            go_roundg (s.size - j)
            case measure => omega
            case rel => exact ⟨j, HJ.out.1, Nat.le_refl _, rfl, HG6⟩
        · have HP : Hid (prn s asc i = false) := Lib.hid (by simpa using hp)
          have hc3 : (cpt s i = 34 ∧ wd s i = 1 ∧ qr s asc i = [92, 34]) ∨ (cpt s i = 92 ∧ wd s i = 1 ∧ qr s asc i = [92, 92]) ∨ (cpt s i = 233 ∧ wd s i = 2 ∧ asc = true ∧ qr s asc i = [92, 117, 48, 48, 69, 57]) := by
            by_cases h1 : cpt s i = 34
            · left
              refine ⟨h1, ?_, by unfold qr; rw [if_pos h1]⟩
              rcases HRC.out with h | h <;> omega
            · by_cases h2 : cpt s i = 92
              · right; left
                refine ⟨h2, ?_, by unfold qr; rw [if_neg h1, if_pos h2]⟩
                rcases HRC.out with h | h <;> omega
              · right; right
                have h3 : cpt s i = 233 ∧ asc = true := by
                  by_cases h : cpt s i = 233 ∧ asc = true
                  · exact h
                  · exact absurd (by unfold prn; simp only [decide_eq_true_eq]; exact ⟨h1, h2, h⟩) hp
                refine ⟨h3.1, ?_, h3.2, by unfold qr; rw [if_neg h1, if_neg h2, if_pos h3]⟩
                rcases HRC.out with h | h <;> omega
          clear hp
          have HCP : Hid (∀ w3 : World, Calls Tryd.prog 47 #[.int .i32 (cpt s i : Nat), .bool asc] w3 fun e w' => e = .returned (.bool false) ∧ w' = w3) := Lib.hid (fun w3 => by have := cp_any s asc i w3 HRC.out; rwa [HP.out] at this)
          have hlen : (34 :: qx s asc i).length ≤ 1006001 := by have := HQX.out; have := HLN.out; simp; omega
          rcases hc3 with ⟨hc, hw, hq⟩ | ⟨hc, hw, hq⟩ | ⟨hc, hw, ha, hq⟩
          · rw [hc] at HCP HDW
            rw [hw] at HX HDW
            rw [hq] at HX
            clear hc hw hq hcl hwp hwl
            go_wp2_with (first
              | (go_at_call 49; refine (HDW.out _).mono ?_; rintro e w3 ⟨rfl, rfl⟩)
              | (go_at_call 47; refine (HCP.out _).mono ?_; rintro e w3 ⟨rfl, rfl⟩)
              | (at_builtin; (refine wpList_pushS _ rfl (.tmp 209) (.const (.string ⟨#[92, 34]⟩)) rfl w.heap.size _ (34 :: qx s asc i) rfl HQ.out.own ⟨#[92, 34]⟩ [92, 34] rfl rfl (by have : (⟨#[92, 34]⟩ : ByteArray).size = 2 := rfl; omega) HQ.out.bel.size ?_; intro v' w6 ho6 hg6; have HG6 : Hid (Gq s asc w (i + 1) v' w6) := Lib.hid (HQ.out.push ho6 hg6 HX.out.2); clear ho6 hg6)))
            go_roundg (s.size - (i + 1))
            case measure => omega
            case rel => exact ⟨i + 1, HX.out.1, Nat.le_refl _, by go_num, HG6⟩
          · rw [hc] at HCP HDW
            rw [hw] at HX HDW
            rw [hq] at HX
            clear hc hw hq hcl hwp hwl
            go_wp2_with (first
              | (go_at_call 49; refine (HDW.out _).mono ?_; rintro e w3 ⟨rfl, rfl⟩)
              | (go_at_call 47; refine (HCP.out _).mono ?_; rintro e w3 ⟨rfl, rfl⟩)
              | (at_builtin; (refine wpList_pushS _ rfl (.tmp 201) (.const (.string ⟨#[92, 92]⟩)) rfl w.heap.size _ (34 :: qx s asc i) rfl HQ.out.own ⟨#[92, 92]⟩ [92, 92] rfl rfl (by have : (⟨#[92, 92]⟩ : ByteArray).size = 2 := rfl; omega) HQ.out.bel.size ?_; intro v' w6 ho6 hg6; have HG6 : Hid (Gq s asc w (i + 1) v' w6) := Lib.hid (HQ.out.push ho6 hg6 HX.out.2); clear ho6 hg6)))
            go_roundg (s.size - (i + 1))
            case measure => omega
            case rel => exact ⟨i + 1, HX.out.1, Nat.le_refl _, by go_num, HG6⟩
          · exact absurd ⟨hc, ha⟩ (H233.out i hlt HB.out.at_)
end Go.Proofs.YtfbeeekakfllpaaDoor
