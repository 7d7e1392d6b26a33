/-
  The law of the chunk builder's script, walked: the script's loop. No statement of the seat is proved here.
-/
import Derived.Test.YtlllfljdagjknaaDoorLab
namespace Go.Proofs.YtlllfljdagjknaaDoor
open Go.RowKit
set_option linter.unusedVariables false
theorem wpList_push2 {P : Program} (w0 : World) {ops : Array Oper} {rest : List Oper} {o : Oper} {a : Act} {Q : Exit → Act → World → Prop} (hgd : o.guard = none) (s x : Operand) (t : TypeId)
    (ho : o.op = .call { callee := .builtin .append, args := #[s, x], argTypes := #[t, t] }) (B : Nat) (e : TypeId) (k : IntKind) (bytes : Nat) (ht : P.underlying t = some (.slice e))
    (hinfo : (P.info? e).map (fun i => (i.zero, i.size, i.bytes)) = some (some (.int k 0), 1, bytes)) (v : Value) (zs : List Int) (z1 z2 : Int) (hs : a.eval s = v) (hown : Own k e w0 B v zs)
    (hx : a.eval x = .slice (some ⟨w0.heap.size, 0, none⟩) 2 2) (h63 : zs.length + 2 ≤ maxLen) (hby : (zs.length + 2) * bytes ≤ 140737488355328) (hB : B ≤ w0.heap.size)
    (h : ∀ v' w', Own k e w' B v' (zs ++ [z1, z2]) → Gr w0 v w' v' → wpList P ops Q rest (a.put o.dst v') w') : wpList P ops Q (o :: rest) a (w0.alloc (.cells #[.int k z1, .int k z2] e)) := by
  obtain ⟨i0, hi, hz0, hz1, hz2⟩ := info_parts hinfo
  refine wpList_append_own_at _ hgd s x t ho B e i0 (.int k 0) 1 bytes ht hi hz0 hz1 hz2 rfl (by decide) v zs.length (row k zs) hs (World.ownsRow.alloc hown _) ⟨w0.heap.size, 0, none⟩ 2 2 [.int k z1, .int k z2] hx rfl ?_ (fun u hu => by simp at hu; rcases hu with rfl | rfl <;> rfl) h63 hby (by simp; omega) ?_
  · intro j u hj
    match j, hj with
    | 0, hj => simp at hj; subst hj; rw [show (⟨w0.heap.size, 0, none⟩ : Addr).add 0 = ⟨w0.heap.size, 0, none⟩ from rfl]; rw [blk_cell (blk_new w0 _) 0]; rfl
    | 1, hj => simp at hj; subst hj; rw [show (⟨w0.heap.size, 0, none⟩ : Addr).add 1 = ⟨w0.heap.size, 1, none⟩ from rfl]; rw [blk_cell (blk_new w0 _) 1]; rfl
  · intro v' w' h1 h2 h3 h4
    refine h v' w' ?_ ⟨gb_trans (World.grownBy_alloc w0 _ _) h2, ?_⟩
    · show w'.ownsRow B e 1 v' (zs ++ [z1, z2]).length (row k (zs ++ [z1, z2]))
      rw [row_app, List.length_append]; exact h1
    · rcases h4 with h4 | h4
      · exact .inl h4
      · exact .inr ⟨_, h4, by simp⟩

theorem ofInt32 (v : Int) : (BitVec.ofInt 32 v).toNat = (v % 4294967296).toNat := by rw [BitVec.toNat_ofInt]; rfl
theorem and3 (v : Int) : bits .and .i32 v 3 = v % 4 := by
  show IntKind.i32.wrap ((BitVec.ofInt 32 v &&& BitVec.ofInt 32 3).toNat : Int) = _
  rw [BitVec.toNat_and, ofInt32, show (BitVec.ofInt 32 3).toNat = 3 from rfl, show ((v % 4294967296).toNat &&& 3) = (v % 4294967296).toNat % 4 from Nat.and_two_pow_sub_one_eq_mod _ 2, IntKind.wrap_i32]
  omega
def LawTrue (w : World) (e : Ending) (w' : World) : Prop := e = .returned (.bool true) ∧ Below w.heap.size w w'
set_option maxRecDepth 100000 in
set_option maxHeartbeats 4000000 in
theorem law_any (ao : Option Addr) (cap : Nat) (zs : List Int) (w : World) (hin : In .i32 w ao zs) (hz : zs.length ≤ 65536) (hr : ∀ z ∈ zs, -2147483648 ≤ z ∧ z ≤ 2147483647) (ht : Tab w w.heap.size) :
    Calls Tryd.prog 3 #[.slice ao zs.length cap] w (LawTrue w) := by
  obtain ⟨i5, hi5, hz50, hz51, hz52⟩ := info_parts copyB_info
  obtain ⟨n, hn⟩ : ∃ n, zs.length = n := ⟨_, rfl⟩
  have HCL : Hid (Calls Tryd.prog 5 #[.slice ao n cap] w (Owned .i32 21 w zs)) := Lib.hid (by rw [← hn]; exact cl_any ao cap zs w hin (by omega))
  have HN := Lib.hid (And.intro hn (And.intro hr ht))
  rw [hn] at hz ⊢
  clear hin hn hr ht
  go_enter Tryd.func3, Tryd.ntmps3
  go_upto_region 10 with (first
    | (go_at_call 4; refine (bytes_yes ao n cap _ (by omega)).mono ?_; rintro e w' ⟨rfl, rfl⟩)
    | (go_at_call 5; refine HCL.out.mono ?_; rintro e w1 ⟨v0, rfl, ho0, hb0⟩; have H0 := Lib.hid (And.intro ho0 hb0); have hz0 := hb0.size; obtain ⟨a1, c1, hv0, _⟩ := ho0.form; rw [HN.out.1] at hv0; subst hv0; clear ho0 hb0)
    | (go_at_call 6; refine (new_any _).mono ?_; rintro e wA ⟨g, r, rfl, hbk, hgg, hbA⟩; have HA := Lib.hid (And.intro hbk (And.intro hgg hbA)); have hzA := hbA.size; have hglt := hbk.lt; clear hbk hbA)
    | (at_make; refine wpList_make_own wA rfl _ _ 27 rfl (g + 1) 5 i5 _ 1 Tryd.underlying27 hi5 hz50 hz51 .i64 .i64 (2 * n : Nat) (2 * n) rfl (by simp [Act.eval, go_sem]) rfl (by rw [hz52]; omega) (by unfold maxLen; omega) (by omega) ?_; intro wB hO4 hgB; have HB := Lib.hid (And.intro hO4 hgB); clear hO4 hgB))
  have hgB := HB.out.2.size
  have HS : Hid (GT r wA g 0 (.slice (some ⟨wA.heap.size, 0, none⟩) 0 (2 * n)) (.int .i64 0) (.int .i64 0) wB) := Lib.hid (by
    have hb : Below wA.heap.size wA wB := (Below.refl _ wA).grown HB.out.2 (Nat.le_refl _) (fun k h => by cases h)
    have htab : Tab wB g := ((((HN.out.2.2.below H0.out.2).below (HA.out.2.2.mono hz0)).below (hb.mono (by omega)))).up (by have := HA.out.2.1; omega)
    refine ⟨⟨[], 0, 0, 0, 0, 0, 0, false, false⟩, 0, 0, .slice none 0 0, [], rfl, rfl, Inv.zero, Nat.le_refl _, ⟨⟨HA.out.1.kept hb, Own.nil _ _ _ _, htab⟩, HB.out.1, fun x _ c => (by cases c), hb.mono (Nat.le_of_lt hglt)⟩⟩)
  have HO : Hid (∀ wr : World, Below g wA wr → ∀ t, t < n → ∃ b off, a1 = some ⟨b, off, none⟩ ∧ wr.cell? ⟨b, off + t, none⟩ = some (.int .i32 (nth zs t))) := Lib.hid (by
    intro wr hb t ht
    obtain ⟨b, off, e, hbl, hc⟩ := H0.out.1.cell t (by rw [HN.out.1]; exact ht)
    have hc2 := (HA.out.2.2.cell (p := ⟨b, off + t, none⟩) hbl).trans hc
    exact ⟨b, off, e, (hb.cell (p := ⟨b, off + t, none⟩) (show b < g by have := HA.out.2.1; omega)).trans hc2⟩)
  clear i5 hi5 hz50 hz51 hz52
  go_wp2_with fail
  go_loopg [4, 5, 6, 7] n (fun k a b c d wr => G1 r wA g n k a b c d wr)
  case atStart => exact ⟨0, rfl, Nat.zero_le _, Nat.le_refl _, HS.out⟩
  case round =>
    obtain ⟨t, rfl, htn, htk, hG⟩ := hrel
    rcases (show t = n ∨ t < n by omega) with rfl | hlt
    · obtain ⟨wz, rfl⟩ : ∃ wz : World, wz = wr := ⟨_, rfl⟩
      obtain ⟨q, nl, mp, sm, ob, rfl, rfl, hinv, hob, hL⟩ := hG
      obtain ⟨ao5, cap5, hsm, _⟩ := hL.cb.own.form
      have hXin : ∀ wx, Below wz.heap.size wz wx → ∀ i, i < (txt false q.toks).length → ∃ b off, ao5 = some ⟨b, off, none⟩ ∧ wx.cell? ⟨b, off + i, none⟩ = some (.int .u8 (nth (txt false q.toks) i)) := by
        intro wx hb i hi
        have ho := hL.cb.own
        rw [hsm] at ho
        obtain ⟨b, off, e, hbl, hc⟩ := ho.cell i hi
        exact ⟨b, off, e, (hb.cell (p := ⟨b, off + i, none⟩) hbl).trans hc⟩
      have hIn : In .u8 wz ao5 (txt false q.toks) := by
        have ho := hL.cb.own
        rw [hsm] at ho
        obtain ⟨ao', cap', e, hin, _⟩ := ho.form
        cases e; exact hin
      have hTL := txt_len q.toks false
      have hql := hinv.len
      obtain ⟨bl, hbl⟩ : ∃ bl, (txt false q.toks).length = bl := ⟨_, rfl⟩
      have HSM : Hid (Calls Tryd.prog 12 #[.pointer (some ⟨g, 0, none⟩)] wz (fun e w' => e = .returned (.slice ao5 bl cap5) ∧ wz = w')) := Lib.hid (by
        have := sm_any g _ wz hL.cb.blk
        rw [hsm, hbl] at this
        exact this)
      have hblb : bl ≤ 4000000 := by omega
      have HX := Lib.hid (And.intro hXin (And.intro hIn (And.intro hbl (And.intro hinv hL))))
      clear hXin hIn hbl hsm hinv hL hTL hob
      go_wp2_with (go_at_call 12; refine HSM.out.mono ?_; rintro e w' ⟨rfl, rfl⟩)
      go_loopg [13, 14, 15, 16, 17, 18, 19] q.toks.length (fun k a b c d e f h wx => G2 q.toks wz k a b c d e f h wx)
      case atStart => exact ⟨[], q.toks, rfl, by cases q.toks with | nil => rfl | cons x t => cases x <;> rfl, rfl, rfl, rfl, rfl, rfl, rfl, Nat.le_refl _, Below.refl _ _⟩
      case round =>
        obtain ⟨l1, l2, hl, rfl, rfl, rfl, rfl, rfl, rfl, rfl, hk, hbx⟩ := hrel
        have hok : Okk 0 l1 ∧ Okk (colOf 0 l1) l2 := by rw [← okk_app, ← hl]; exact HX.out.2.2.2.1.okk
        have hcb := colOf_bd l1 0 0 hok.1 (Int.le_refl _) (Int.le_refl _) (Int.le_refl _)
        have hsb := srcOf_bd l1 0 hok.1
        have hll : l1.length + l2.length = q.toks.length := by rw [hl, List.length_append]
        have hsl := sgs_len l1
        rcases l2 with _ | ⟨x, t2⟩
        · have hP : (txt false l1).length + startOf (lst false l1) [] = bl := by rw [at_end, ← hl]; exact HX.out.2.2.1
          have hnl : nls l1 = nl := by have := HX.out.2.2.2.1.nl; rw [hl, List.append_nil] at this; exact this
          have hsg : mp ≤ sgs l1 := by have := HX.out.2.2.2.1.sg; rw [hl, List.append_nil] at this; exact this
          rw [hP, hnl]
          obtain ⟨sg, hsgg⟩ : ∃ sg, sgs l1 = sg := ⟨_, rfl⟩
          rw [hsgg] at hsg hsl ⊢
          obtain ⟨co, hco⟩ : ∃ co, colOf 0 l1 = co := ⟨_, rfl⟩
          obtain ⟨so, hso⟩ : ∃ so, srcOf l1 = so := ⟨_, rfl⟩
          rw [hco, hso]
          have HBX := Lib.hid hbx
          clear hok hcb hsb hll hP hnl hsgg hco hso hbx hl
          go_wp2_with fail
          go_ret
          refine ⟨rfl, ?_⟩
          have h1 := HX.out.2.2.2.2.bel
          have h2 := HX.out.2.2.2.2.lt
          exact ((H0.out.2.trans (HA.out.2.2.mono hz0)).trans (h1.mono (by have := HA.out.2.1; omega))).trans (HBX.out.mono (by have := h1.size; omega))
        · cases x with
          | nl =>
            have hat := at_nl l1 t2
            rw [← hl, HX.out.2.2.1] at hat
            rw [startOf_nl, Nat.add_zero]
            obtain ⟨P, hP⟩ : ∃ P, (txt false l1).length = P := ⟨_, rfl⟩
            rw [hP] at hat ⊢
            obtain ⟨b, off, e5, hc⟩ := HX.out.1 _ hbx P (by rw [HX.out.2.2.1]; exact hat.1)
            rw [hat.2.1] at hc
            have hPb := hat.1
            have HAT : Hid (G2 q.toks wz t2.length (.int .i64 ((P : Int) + 1)) (.int .i64 ((nls l1 : Nat) + 1 : Int)) (.int .i64 (sgs l1 : Nat)) (.int .i64 0) (.int .i64 (srcOf l1)) (.int .i64 (srcOf l1)) (.int .i64 (-(srcOf l1))) wr) := Lib.hid (by
              refine ⟨l1 ++ [.nl], t2, by rw [hl, List.append_assoc]; rfl, by rw [← hat.2.2]; go_num, by rw [nls_app]; go_num, by rw [sgs_app]; rfl, by rw [colOf_app]; rfl, by rw [srcOf_app]; simp [srcOf], by rw [srcOf_app]; simp [srcOf], by rw [srcOf_app]; simp [srcOf], Nat.le_refl _, hbx⟩)
            obtain ⟨sn, hsn⟩ : ∃ sn, nls l1 = sn := ⟨_, rfl⟩
            obtain ⟨sg, hsgg⟩ : ∃ sg, sgs l1 = sg := ⟨_, rfl⟩
            obtain ⟨co, hco⟩ : ∃ co, colOf 0 l1 = co := ⟨_, rfl⟩
            obtain ⟨so, hso⟩ : ∃ so, srcOf l1 = so := ⟨_, rfl⟩
            rw [hsn, hsgg, hso] at HAT
            rw [hsn, hsgg] at hsl
            rw [hsn, hsgg, hco, hso]
            have hsnb : sn ≤ 131072 := by omega
            have hkk : t2.length < q.toks.length - l1.length := by simp only [List.length_cons] at hll; omega
            have hk2 : t2.length < t2.length + 1 := Nat.lt_succ_self _
            simp only [List.length_cons] at hk
            clear hok hcb hsb hat hP hsn hsgg hco hso hbx hl hll hkk
            subst e5
            go_wp2_with fail
            go_roundg t2.length
            case measure => omega
            case rel => exact HAT.out
          | seg a b' c d =>
            obtain ⟨ok1, okc, okd, hba, hbb, ok2⟩ := hok.2
            subst okc okd
            obtain ⟨P, hP⟩ : ∃ P, (txt false l1).length + startOf (lst false l1) (.seg a c c (-c) :: t2) = P := ⟨_, rfl⟩
            have hat := at_seg l1 t2 a c c (-c) P hP
            rw [← hl, HX.out.2.2.1] at hat
            rw [hP]
            have hel := encs_len a c c (-c)
            have hen := encs_ok a c c (-c)
            obtain ⟨e, he⟩ : ∃ e, P + (encs a c c (-c)).length = e := ⟨_, rfl⟩
            have hbd : Bnd a ∧ Bnd c ∧ Bnd c ∧ Bnd (-c) := ⟨hba, hbb, hbb, by obtain ⟨h1, h2⟩ := hbb; unfold Bnd; omega⟩
            have hInw : In .u8 wr ao5 (txt false q.toks) := HX.out.2.1.kept hbx
            have HSEP : Hid (Calls Tryd.prog 13 #[.slice ao5 bl cap5, .int .i64 P] wr (fun en w' => en = .returned (.int .i64 e) ∧ wr = w')) := Lib.hid (by
              have := sep_any ao5 cap5 (txt false q.toks) (encs a c c (-c)) P wr hInw (by rw [HX.out.2.2.1]; omega) ⟨fun j hj => ⟨by rw [HX.out.2.2.1]; omega, hat.2.1 j hj⟩, by
                rw [HX.out.2.2.1]
                rcases hat.2.2.2 with ⟨_, h⟩ | ⟨_, h1, h2⟩ | ⟨_, h1, h2, _⟩
                · exact .inl h
                · exact .inr ⟨h1, .inr h2⟩
                · exact .inr ⟨by omega, .inl h2⟩⟩ hen
              rw [HX.out.2.2.1, he] at this
              exact this)
            have HSEG : Hid (Calls Tryd.prog 14 #[.slice ao5 bl cap5, .int .i64 P, .int .i64 e] wr (Dsg4 a c c (-c) wr)) := Lib.hid (by
              have := step_seg ao5 cap5 bl P (txt false q.toks) a c c (-c) wr HX.out.2.2.1 hInw (by omega) hbd hat.1 hat.2.1
              rw [he] at this
              exact this)
            have hPe : P < e := by omega
            have hPb : P < bl := by omega
            have heb : e ≤ bl := by have := hat.1; omega
            have hc0 : ∃ z : Int, (z == 59) = false ∧ ∃ b off, ao5 = some ⟨b, off, none⟩ ∧ wr.cell? ⟨b, off + P, none⟩ = some (.int .u8 z) := by
              obtain ⟨b, off, e5, hc⟩ := HX.out.1 _ hbx P (by rw [HX.out.2.2.1]; exact hPb)
              have h0 := hat.2.1 0 (by omega)
              rw [Nat.add_zero] at h0
              rw [h0] at hc
              have := hen _ (nth_mem (encs a c c (-c)) 0 (by omega))
              exact ⟨_, beq_eq_false_iff_ne.2 this.2.2.2, b, off, e5, hc⟩
            obtain ⟨z0, hz0', b, off, e5, hc0⟩ := hc0
            have heP : ((e : Int) == (P : Int)) = false := beq_eq_false_iff_ne.2 (by omega)
            obtain ⟨sn, hsn⟩ : ∃ sn, nls l1 = sn := ⟨_, rfl⟩
            obtain ⟨sg, hsgg⟩ : ∃ sg, sgs l1 = sg := ⟨_, rfl⟩
            obtain ⟨co, hco⟩ : ∃ co, colOf 0 l1 = co := ⟨_, rfl⟩
            obtain ⟨so, hso⟩ : ∃ so, srcOf l1 = so := ⟨_, rfl⟩
            rw [hsn, hsgg] at hsl
            rw [hco] at hcb ok1
            rw [hso] at hsb
            rw [hsn, hsgg, hco, hso]
            have hsgb : sg ≤ 131072 := by omega
            obtain ⟨c1', hc1'⟩ : ∃ c1', co + a = c1' := ⟨_, rfl⟩
            obtain ⟨s1, hs1⟩ : ∃ s1, so + c = s1 := ⟨_, rfl⟩
            have hs2 : -so + -c = -s1 := by omega
            have hc1d : decide (c1' < 0) = false := decide_eq_false (by omega)
            have hll2 : (l1.length : Int) ≤ 131072 := by omega
            have hcob : -140737488355328 ≤ co ∧ co ≤ 140737488355328 := by omega
            have hsob : -140737488355328 ≤ so ∧ so ≤ 140737488355328 := by omega
            obtain ⟨cob0, cob1⟩ := hcob
            obtain ⟨sob0, sob1⟩ := hsob
            obtain ⟨ba0, ba1⟩ := hba
            obtain ⟨bb0, bb1⟩ := hbb
            simp only [List.length_cons] at hk hll
            have HS := Lib.hid (And.intro hl (And.intro hP (And.intro he (And.intro hat (And.intro hbx (And.intro hsn (And.intro hsgg (And.intro hco hso))))))))
            clear hok hcb hsb hat hP hsn hsgg hco hso hbx hl hll he hel hen hbd hInw ok1 ok2 hsl
            subst e5
            go_upto_region 63 with (first
              | (go_at_call 13; (refine HSEP.out.mono ?_; rintro en w' ⟨rfl, rfl⟩))
              | (go_at_call 14; (refine HSEG.out.mono ?_; rintro en w14 ⟨t0, t1, t2', t3, t4, t5, rfl, hb14⟩; have HB14 := Lib.hid hb14; clear hb14)))
            have hbF : Below wz.heap.size wz ((w14.alloc (.cells #[.int .i64 a, .int .i64 c, .int .i64 c, .int .i64 (-c), .int .i64 0, .int .i64 0] 37)).alloc (.cells #[.int .i64 t0, .int .i64 t1, .int .i64 t2', .int .i64 t3, .int .i64 t4, .int .i64 t5] 37)) := by
              have h1 := HS.out.2.2.2.2.1
              have h2 := HB14.out
              have h3 := h1.size
              have h4 := h2.size
              exact ((h1.trans (h2.mono h3)).alloc (by omega) _).alloc (by simp; omega) _
            obtain ⟨wF, hwF⟩ : ∃ wF, (w14.alloc (.cells #[.int .i64 a, .int .i64 c, .int .i64 c, .int .i64 (-c), .int .i64 0, .int .i64 0] 37)).alloc (.cells #[.int .i64 t0, .int .i64 t1, .int .i64 t2', .int .i64 t3, .int .i64 t4, .int .i64 t5] 37) = wF := ⟨_, rfl⟩
            rw [hwF] at hbF ⊢
            obtain ⟨n14, hn14⟩ : ∃ n14, w14.heap.size = n14 := ⟨_, rfl⟩
            rw [hn14]
            clear hwF hn14 hc0 hz0' heP
            have HG : Hid (∀ pos : Nat, pos = (txt false (l1 ++ [.seg a c c (-c)])).length + startOf (lst false (l1 ++ [.seg a c c (-c)])) t2 → G2 q.toks wz t2.length (.int .i64 pos) (.int .i64 sn) (.int .i64 ((sg : Int) + 1)) (.int .i64 c1') (.int .i64 s1) (.int .i64 s1) (.int .i64 (-s1)) wF) := Lib.hid (by
              obtain ⟨hl, hP, he, hat, hbx, hsn, hsgg, hco, hso⟩ := HS.out
              intro pos hp
              refine ⟨l1 ++ [.seg a c c (-c)], t2, by rw [hl, List.append_assoc]; rfl, by rw [hp], by rw [nls_app, ← hsn]; rfl, by rw [sgs_app, ← hsgg]; go_num, ?_, ?_, ?_, ?_, Nat.le_refl _, hbF⟩
              · rw [colOf_app, ← hc1', ← hco]; rfl
              · rw [srcOf_app, ← hs1, ← hso]; simp [srcOf]
              · rw [srcOf_app, ← hs1, ← hso]; simp [srcOf]
              · rw [srcOf_app, ← hs1, ← hso]; simp [srcOf])
            have hcell := HX.out.1 wF hbF
            have hlen := HX.out.2.2.1
            rw [hlen] at hcell
            have hth := HS.out.2.2.2.1.2.2
            rw [HS.out.2.2.1] at hth
            have HTH := Lib.hid hth
            have HCE := Lib.hid hcell
            clear hcell hlen hth hbF
            rcases HTH.out.2 with ⟨h, h1⟩ | ⟨⟨t', h⟩, h1, h2⟩ | ⟨⟨a2, b2, c2, d2, t', h⟩, h1, h2, h3⟩
            · have HR := Lib.hid (HG.out e (by rw [h, startOf_nil]; exact HTH.out.1))
              have hel : ¬ e < bl := by omega
              clear h h1
              go_wp2_with fail
              go_roundg t2.length
              case measure => omega
              case rel => exact HR.out
            · have HR := Lib.hid (HG.out e (by rw [h, startOf_nl]; exact HTH.out.1))
              obtain ⟨b3, off3, e3, hc3⟩ := HCE.out e h1
              cases e3
              rw [h2] at hc3
              clear h h2
              go_wp2_with fail
              go_roundg t2.length
              case measure => omega
              case rel => exact HR.out
            · obtain ⟨e1, he1⟩ : ∃ e1, e + 1 = e1 := ⟨_, rfl⟩
              have HR := Lib.hid (HG.out e1 (by rw [h, start_seg, ← he1]; have := HTH.out.1; simp only; omega))
              have he1i : ((e : Int) + 1) = (e1 : Int) := by omega
              obtain ⟨b3, off3, e3, hc3⟩ := HCE.out e (by omega)
              cases e3
              rw [h2] at hc3
              obtain ⟨b4, off4, e4, hc4⟩ := HCE.out e1 (by omega)
              cases e4
              rw [he1] at h3
              obtain ⟨y, hy⟩ : ∃ y, nth (txt false q.toks) e1 = y := ⟨_, rfl⟩
              rw [hy] at hc4 h3
              have y1 : (y == 59) = false := beq_eq_false_iff_ne.2 h3.2.2.2
              have y2 : (y == 44) = false := beq_eq_false_iff_ne.2 h3.2.2.1
              have heb1 : e1 < bl := by omega
              have heb2 : e < bl := by omega
              have hdg : decide (bl ≤ e1) = false := decide_eq_false (by omega)
              clear h h1 h2 h3 hy he1
              go_wp2_with fail
              go_roundg t2.length
              case measure => omega
              case rel => exact HR.out
    · have hltm : n - (t + 1) < n - t := by omega
      obtain ⟨q, nl, mp, sm, ob, rfl, rfl, hinv, hob, hL⟩ := hG
      obtain ⟨b, off, rfl, hc⟩ := HO.out wr hL.bel t hlt
      obtain ⟨v, hv⟩ : ∃ v, nth zs t = v := ⟨_, rfl⟩
      rw [hv] at hc
      have hvb : -2147483648 ≤ v ∧ v ≤ 2147483647 := by rw [← hv]; exact HN.out.2.1 _ (nth_mem _ _ (by rw [HN.out.1]; exact hlt))
      have ha3 := and3 v
      have hlo := hL.lt
      have hnlt := hinv.nt
      have hsgl := sgs_len q.toks
      have hmpl : mp ≤ 2 * t := by have := hinv.sg; have := hinv.len; omega
      have HL := Lib.hid (And.intro hL hinv)
      clear hL hv hinv hsgl
      obtain ⟨v0, v1⟩ := hvb
      go_upto_region 18 with fail
      clear ha3 hc
      obtain ⟨kd, hkd⟩ : ∃ kd, v % 4 = kd := ⟨_, rfl⟩
      obtain ⟨p, hp⟩ : ∃ p, v / 4 = p := ⟨_, rfl⟩
      have hp0 : -536870912 ≤ p := by omega
      have hp1 : p ≤ 536870911 := by omega
      have hk4 : kd = 0 ∨ kd = 1 ∨ kd = 2 ∨ kd = 3 := by omega
      rw [hkd, hp]
      clear hkd hp v0 v1
      have HBD : Hid (ob.length + 1 ≤ maxLen ∧ (ob.length + 1) * 1 ≤ 140737488355328 ∧ ob.length + 2 ≤ maxLen ∧ (ob.length + 2) * 1 ≤ 140737488355328) := Lib.hid (by unfold maxLen; omega)
      go_upto_if 58 with fail
      go_cut [4, 5, 6] (fun x y z wc => GT r wA g (t + 1) x y z wc)
      case first =>
        rcases hk4 with rfl | rfl | rfl | rfl
        · go_wp2_with (first
            | (at_builtin; (refine wpList_push wr rfl (.tmp 59) (.tmp 60) 27 rfl (g + 1) 5 .u8 1 Tryd.underlying27 copyB_info u4 ob _ rfl HL.out.1.out rfl HBD.out.1 HBD.out.2.1 hlo ?_; intro v5 w5 ho5 hg5 hn5; obtain ⟨o, cap5, hv5, hu5⟩ := step_upd Tx (by decide) (by decide) HL.out.1 HL.out.2 (by omega) hob ho5 hg5; subst hv5; have HU5 := Lib.hid hu5; clear ho5 hg5 hn5 hu5))
            | (go_at_call 7; (refine HU5.out.mono ?_; rintro e w6 ⟨rfl, hs6⟩; have H6 := Lib.hid hs6; clear hs6)))
          go_meet
          obtain ⟨sm', h6⟩ := H6.out
          rw [run_x] at h6
          exact ⟨_, nl, mp, sm', ob ++ [120], rfl, rfl, HL.out.2.x, by simp; omega, h6⟩
        · go_wp2_with (first
            | (at_builtin; (refine wpList_push wr rfl (.tmp 67) (.tmp 68) 27 rfl (g + 1) 5 .u8 1 Tryd.underlying27 copyB_info u4 ob _ rfl HL.out.1.out rfl HBD.out.1 HBD.out.2.1 hlo ?_; intro v5 w5 ho5 hg5 hn5; obtain ⟨o, cap5, hv5, hu5⟩ := step_upd Tn (by decide) (by decide) HL.out.1 HL.out.2 (by omega) hob ho5 hg5; subst hv5; have HU5 := Lib.hid hu5; clear ho5 hg5 hn5 hu5))
            | (go_at_call 7; (refine HU5.out.mono ?_; rintro e w6 ⟨rfl, hs6⟩; have H6 := Lib.hid hs6; clear hs6)))
          go_meet
          obtain ⟨sm', h6⟩ := H6.out
          rw [run_n] at h6
          exact ⟨_, nl + 1, mp, sm', ob ++ [10], by go_num, rfl, HL.out.2.nl' (by omega), by simp; omega, h6⟩
        · go_wp2_with (first
            | (at_builtin; (refine wpList_push2 wr rfl (.tmp 77) (.tmp 78) 27 rfl (g + 1) 5 .u8 1 Tryd.underlying27 copyB_info u4 ob _ _ rfl HL.out.1.out rfl HBD.out.2.2.1 HBD.out.2.2.2 hlo ?_; intro v5 w5 ho5 hg5; obtain ⟨o, cap5, hv5, hu5⟩ := step_upd Tc (by decide) (by decide) HL.out.1 HL.out.2 (by omega) hob ho5 hg5; subst hv5; have HU5 := Lib.hid hu5; clear ho5 hg5 hu5))
            | (go_at_call 7; (refine HU5.out.mono ?_; rintro e w6 ⟨rfl, hs6⟩; have H6 := Lib.hid hs6; clear hs6)))
          go_meet
          obtain ⟨sm', h6⟩ := H6.out
          rw [run_c] at h6
          exact ⟨_, nl + 1, mp, sm', ob ++ [13, 10], by go_num, rfl, HL.out.2.nl' (by omega), by simp; omega, h6⟩
        · go_upto_region 30 with (go_at_call 8; (refine (prev_any g _ wr HL.out.1.cb.blk).mono ?_; rintro e w5 ⟨rfl, hb5⟩; have HL5 := Lib.hid (HL.out.1.kept hb5); have hz5 := hb5.size; clear hb5; unfold St.cells))
          have hbn := Blk.new w5 31 (St.cells (cbl r sm q ob.length).p)
          have HL6 := Lib.hid (HL5.out.kept ((Below.refl _ w5).alloc (Nat.le_refl _) (.cells (St.cells (cbl r sm q ob.length).p) 31)))
          obtain ⟨w6, hw6⟩ : ∃ w6, w5.alloc (.cells (St.cells (cbl r sm q ob.length).p) 31) = w6 := ⟨_, rfl⟩
          rw [hw6] at hbn HL6
          have hw7 : w5.alloc (.cells #[.int .i64 (cbl r sm q ob.length).p.gl, .int .i64 (cbl r sm q ob.length).p.gc, .int .i64 (cbl r sm q ob.length).p.si, .int .i64 (cbl r sm q ob.length).p.ol, .int .i64 (cbl r sm q ob.length).p.oc, .int .i64 (cbl r sm q ob.length).p.on, .bool false] 31) = w6 := hw6
          rw [hw7]
          have c0' : w6.cell? ⟨w5.heap.size, 0, none⟩ = some (.int .i64 q.gl) := hbn.cell 0
          obtain ⟨b5, hb5⟩ : ∃ b5, w5.heap.size = b5 := ⟨_, rfl⟩
          rw [hb5] at c0' ⊢
          clear hw6 hw7 hbn hb5
          have hneg : IntKind.i64.wrap (-p) = -p := IntWalk.i64_in _ (by omega)
          have HG10 := Lib.hid (step_gcol (HL6.out.drewN 1))
          have HG9 := Lib.hid (step_app p (HL6.out.drewN 1) HL.out.2 (by omega) hp0 hp1)
          have HINV : Hid (Inv (q.app q.gcol p p (-p)) nl (mp + 1) (t + 1)) := Lib.hid (HL.out.2.app q.gcol p HL.out.2.gcol0 HL.out.2.gcol1 hp0 hp1 (by omega))
          go_cut [] (fun wx => SmE r wA g (q.app q.gcol p p (-p)) ob u4 wx)
          case first =>
            go_region_with (first
              | (go_at_call 10; (refine HG10.out.mono ?_; rintro e w' ⟨rfl, rfl⟩))
              | (go_at_call 9; (refine HG9.out.mono ?_; rintro e w8 ⟨rfl, hs8⟩; have H8 := Lib.hid hs8; clear hs8)))
            all_goals
              go_wp2_with fail
              go_meet
              exact H8.out
          case rest =>
            have H8 := Lib.hid hcut
            clear hcut c0'
            go_wp2_with fail
            go_meet
            obtain ⟨sm', h8⟩ := H8.out
            exact ⟨_, nl, mp + 1, sm', ob, rfl, by go_num, HINV.out, by omega, h8⟩
      case rest =>
        obtain ⟨q, nl, mp, sm, ob, rfl, rfl, hinv, hob, hL⟩ := hcut
        have hv4 : ∃ ao4 cap4, u4 = .slice ao4 ob.length cap4 := by obtain ⟨a, c, h, _⟩ := hL.out.form; exact ⟨a, c, h⟩
        obtain ⟨ao4, cap4, rfl⟩ := hv4
        have HP := Lib.hid (step_prev hL nl hinv.gl)
        have HL := Lib.hid (And.intro hL hinv)
        have hfl := field31 nl q.gc q.si q.ol q.oc 0
        have hnlt := hinv.nt
        clear hL hinv
        obtain ⟨m, hm⟩ : ∃ m, ob.length = m := ⟨_, rfl⟩
        have HM := Lib.hid hm
        rw [hm] at hob
        rw [hm]
        clear hm
        go_wp2_with (first
          | (go_at_call 8; (refine HP.out.mono ?_; rintro e w5 ⟨rfl, hb5⟩; have HL5 := Lib.hid (HL.out.1.kept hb5); clear hb5))
          | (go_at_call 11; (refine (step_lu HL5.out).mono ?_; rintro e w' ⟨rfl, rfl⟩; rw [HM.out])))
        go_roundg (n - (t + 1))
        case measure => exact Nat.lt_of_lt_of_le hltm htk
        case rel => exact ⟨t + 1, by go_num, hlt, Nat.le_refl _, q, nl, mp, sm, ob, rfl, rfl, HL.out.2, by rw [HM.out]; exact hob, by rw [← HM.out] ; exact HL5.out⟩
end Go.Proofs.YtlllfljdagjknaaDoor
