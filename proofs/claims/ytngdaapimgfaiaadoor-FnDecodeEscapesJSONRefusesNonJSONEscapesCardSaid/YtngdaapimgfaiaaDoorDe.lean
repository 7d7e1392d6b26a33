/-
  js_lexer's tryToDecodeEscapeSequences in strict JSON: a prefix without backslashes, then a refused escape. No statement of the seat is proved here.
-/
import Derived.Test.YtngdaapimgfaiaaDoorFr
import Derived.Test.YtngdaapimgfaiaaDoorDg
import Derived.Test.YtngdaapimgfaiaaDoorOwn
import Derived.Deep.CutBlock
import Derived.Deep.DeepCutAuto
import Derived.Deep.LoopGhost
import Derived.Deep.Light
namespace Go.Proofs.YtngdaapimgfaiaaDoor
open Go.RowKit
set_option linter.unusedVariables false
/-- 'append(v, z1, z2)' -/
theorem wpList_push2 {P : Program} (w0 : World) {ops : Array Oper} {rest : List Oper} {o : Oper} {a : Act} {Q : Exit → Act → World → Prop} (hgd : o.guard = none) (s x : Operand) (t : TypeId)
    (ho : o.op = .call { callee := .builtin .append, args := #[s, x], argTypes := #[t, t] }) (B : Nat) (e : TypeId) (k : IntKind) (bytes : Nat) (ht : P.underlying t = some (.slice e))
    (hinfo : (P.info? e).map (fun i => (i.zero, i.size, i.bytes)) = some (some (.int k 0), 1, bytes)) (v : Value) (zs : List Int) (z1 z2 : Int) (hs : a.eval s = v) (hown : Own k e w0 B v zs)
    (hx : a.eval x = .slice (some ⟨w0.heap.size, 0, none⟩) 2 2) (h63 : zs.length + 2 ≤ maxLen) (hby : (zs.length + 2) * bytes ≤ 140737488355328) (hB : B ≤ w0.heap.size)
    (h : ∀ v' w', Own k e w' B v' (zs ++ [z1, z2]) → Gr w0 v w' v' → wpList P ops Q rest (a.put o.dst v') w') : wpList P ops Q (o :: rest) a (w0.alloc (.cells #[.int k z1, .int k z2] e)) := by
  obtain ⟨i0, hi, hz0, hz1, hz2⟩ := info_parts hinfo
  refine wpList_append_own_at _ hgd s x t ho B e i0 (.int k 0) 1 bytes ht hi hz0 hz1 hz2 rfl (by decide) v zs.length (row k zs) hs (World.ownsRow.alloc hown _) ⟨w0.heap.size, 0, none⟩ 2 2 [.int k z1, .int k z2] hx rfl ?_ (fun u hu => by simp at hu; rcases hu with rfl | rfl <;> rfl) h63 hby (by simp; omega) ?_
  · intro j u hj
    match j, hj with
    | 0, hj => simp at hj; subst hj; rw [show (⟨w0.heap.size, 0, none⟩ : Addr).add 0 = ⟨w0.heap.size, 0, none⟩ from rfl]; rw [blk_cell (blk_new w0 _) 0]; rfl
    | 1, hj => simp at hj; subst hj; rw [show (⟨w0.heap.size, 0, none⟩ : Addr).add 1 = ⟨w0.heap.size, 1, none⟩ from rfl]; rw [blk_cell (blk_new w0 _) 1]; rfl
  · intro v' w' h1 h2 h3 h4
    refine h v' w' ?_ ⟨gb_trans (World.grownBy_alloc w0 _ _) h2, ?_⟩
    · show w'.ownsRow B e 1 v' (zs ++ [z1, z2]).length (row k (zs ++ [z1, z2]))
      rw [row_app, List.length_append]; exact h1
    · rcases h4 with h4 | h4
      · exact .inl h4
      · exact .inr ⟨_, h4, by simp⟩
theorem info77 : (Tryd.prog.info? 77).map (fun i => (i.zero, i.size, i.bytes)) = some (some (.int .u16 0), 1, 2) := by kernel_rfl
/-- what the loop keeps -/
structure DR (T : ByteArray) (P B : Nat) (w : World) (k : Nat) (i : Nat) (v : Value) (wr : World) : Prop where
  le : i ≤ P
  ms : P - i ≤ k
  own : ∃ zs, Own .u16 77 wr B v zs ∧ zs.length ≤ 2 * i
  bel : Below B w wr
def DI (p : Value) (s : Value) (T : ByteArray) (r : Value) (P B : Nat) (w : World) (k : Nat) (a : Act) (wr : World) : Prop :=
  ∃ (i : Nat) (v : Value), a.defers = [] ∧ a.tmps.size = 567 ∧ (∀ q ∈ [(0, p), (1, s), (2, Value.string T), (3, r), (11, v), (12, Value.int .i64 (i : Int))], a.tmps[q.1]? = some q.2) ∧ DR T P B w k i v wr
theorem six {a : Array Value} {p s t r v x : Value} (h0 : a[0]? = some p) (h1 : a[1]? = some s) (h2 : a[2]? = some t) (h3 : a[3]? = some r) (h11 : a[11]? = some v) (h12 : a[12]? = some x) :
    ∀ q ∈ [(0, p), (1, s), (2, t), (3, r), (11, v), (12, x)], a[q.1]? = some q.2 := by
  intro q hq
  simp only [List.mem_cons, List.not_mem_nil, or_false] at hq
  rcases hq with rfl | rfl | rfl | rfl | rfl | rfl <;> assumption
def Acc (c : Nat) : Prop := c = 98 ∨ c = 102 ∨ c = 110 ∨ c = 114 ∨ c = 116 ∨ c = 117 ∨ c = 56 ∨ c = 57 ∨ c = 34 ∨ c = 92 ∨ c = 47
set_option maxRecDepth 1000000 in
set_option maxHeartbeats 4000000 in
theorem de_refuse (p : Nat) (start : Int) (T : ByteArray) (P c : Nat) (rep : Bool) (w : World) (hj : w.cell? ⟨p, 68, none⟩ = some (.int .u8 0)) (hP : P + 1 < T.size) (hz : T.size ≤ 2097152) (hpre : ∀ j, j < P → byteAt T j ≠ 92) (h92 : byteAt T P = 92) (hc : byteAt T (P + 1) = c) (hc128 : c < 128) (hacc : ¬ Acc c) (ht : Lib.Utf8Tabs 0 1 w) :
    Calls Tryd.prog 8 #[.pointer (some ⟨p, 0, none⟩), .int .i64 start, .string T, .bool rep] w fun e w' => e = .returned (.tuple #[.slice none 0 0, .bool false, .int .i64 (wrap64 (wrap64 (start + (P + 2 : Nat)) - 1))]) ∧ Below w.heap.size w w' := by
  have H := Lib.hid (And.intro hpre (And.intro h92 (And.intro hc (And.intro hacc ht))))
  clear hpre h92 hc hacc ht
  go_enter Tryd.func8, Tryd.ntmps8
  go_wp2_with fail
  refine wp_loop_ghost_k (DI (.pointer (some ⟨p, 0, none⟩)) (.int .i64 start) T (.bool rep) P w.heap.size w) P ?_ ?_
  · refine ⟨0, _, rfl, by kernel_rfl, six (by kernel_rfl) (by kernel_rfl) (by kernel_rfl) (by kernel_rfl) (v := .slice (some ⟨w.heap.size, 0, none⟩) 0 0) (by kernel_rfl) (by kernel_rfl), Nat.zero_le _, by omega, ?_, ?_⟩
    · exact ⟨[], Own.of_blk (k := .u16) (zs := []) (Blk.new w 77 #[]) (Nat.le_refl _) (by simp), by simp⟩
    · exact (Below.refl _ _).alloc (Nat.le_refl _) _
  intro gk a wr hI J K hJ hK
  obtain ⟨i, v, hd, hs, hl, hdr⟩ := hI
  obtain ⟨tmps, defers⟩ := a
  simp only at hd hs hl
  obtain ⟨us, hus⟩ : ∃ us : Nat → Value, tmps = frA _ us 567 := ⟨_, fr_of hs hl⟩
  rw [fr8] at hus
  subst hus
  subst hd
  clear hs hl
  obtain ⟨hi, hk, ⟨zs, hO, hzl⟩, hB⟩ := hdr
  have w0 : 1 < w.heap.size := World.block_lt_of_cell? w ⟨1, 0, none⟩ (H.out.2.2.2.2.2 0 (by decide)).1
  have hiT : i < T.size := Nat.lt_of_le_of_lt hi (by omega)
  have hz2 := hB.size
  have hjr : wr.cell? ⟨p, 68, none⟩ = some (.int .u8 0) := (hB.cell (p := ⟨p, 68, none⟩) (World.block_lt_of_cell? w _ hj)).trans hj
  have f1 : (0 : Int) ≤ (i : Int) := by omega
  have f2 : (i : Int) ≤ (T.size : Int) := by omega
  have hT : Hid (Lib.Utf8Tabs 0 1 wr) := Lib.hid (tabs_below H.out.2.2.2.2 hB (by omega) (by omega))
  rcases (show P = i ∨ i < P by omega) with he | hlt
  · obtain rfl := he
    have hd : Hid (dg T P = (92, 1)) := Lib.hid (by rw [dg_ascii T P hiT (by rw [H.out.2.1]; decide), H.out.2.1])
    obtain ⟨n1, hn1⟩ : ∃ n : Nat, P + 1 = n := ⟨_, rfl⟩
    have hn1i : ((P : Int) + 1) = (n1 : Int) := by omega
    obtain ⟨n2, hn2⟩ : ∃ n : Nat, n1 + 1 = n := ⟨_, rfl⟩
    have hn2i : ((n1 : Int) + 1) = (n2 : Int) := by omega
    have hd2 : Hid (dg T n1 = (c, 1)) := Lib.hid (by have h := H.out.2.2.1; rw [hn1] at h; rw [dg_ascii T n1 (by omega) (by rw [h]; exact hc128), h])
    have g1 : (0 : Int) ≤ (n1 : Int) := by omega
    have g2 : (n1 : Int) ≤ (T.size : Int) := by omega
    have HR := Lib.hid (And.intro hO hB)
    clear hO hB
    have hna := H.out.2.2.2.1
    unfold Acc at hna
    go_upto_region 12 with (go_at_call 9; refine (dri2 T P _ 1 wr hT.out hd.out).mono ?_; rintro e w1 ⟨rfl, b1⟩; have hT1 : Hid (Lib.Utf8Tabs 0 1 w1) := Lib.hid (tabs_below hT.out b1 (by omega) (by omega)); have hjr1 := (b1.cell (p := ⟨p, 68, none⟩) (World.block_lt_of_cell? wr _ hjr)).trans hjr; have HB1 := Lib.hid (HR.out.2.trans (b1.mono hz2)); have hz3 := HB1.out.size; clear b1)
    go_upto_region 22 with (go_at_call 9; refine (dri2 T n1 _ 1 w1 hT1.out hd2.out).mono ?_; rintro e w2 ⟨rfl, b2⟩; have hjr2 := (b2.cell (p := ⟨p, 68, none⟩) (World.block_lt_of_cell? w1 _ hjr1)).trans hjr1; have HB2 := Lib.hid (HB1.out.trans (b2.mono hz3)); clear b2)
    clear hT hjr hjr1 HB1
    rcases (show c = 118 ∨ c = 48 ∨ c = 49 ∨ c = 50 ∨ c = 51 ∨ c = 52 ∨ c = 53 ∨ c = 54 ∨ c = 55 ∨ c = 120 ∨ c = 13 ∨ c = 10 ∨ (c ≠ 118 ∧ c ≠ 48 ∧ c ≠ 49 ∧ c ≠ 50 ∧ c ≠ 51 ∧ c ≠ 52 ∧ c ≠ 53 ∧ c ≠ 54 ∧ c ≠ 55 ∧ c ≠ 120 ∧ c ≠ 13 ∧ c ≠ 10) by omega) with rfl | rfl | rfl | rfl | rfl | rfl | rfl | rfl | rfl | rfl | rfl | rfl | ho
    · go_wp2_with fail
      go_ret3
      exact ⟨(show P + 2 = n2 by omega) ▸ rfl, HB2.out⟩
    · go_wp2_with fail
      go_ret3
      exact ⟨(show P + 2 = n2 by omega) ▸ rfl, HB2.out⟩
    · go_wp2_with fail
      go_ret3
      exact ⟨(show P + 2 = n2 by omega) ▸ rfl, HB2.out⟩
    · go_wp2_with fail
      go_ret3
      exact ⟨(show P + 2 = n2 by omega) ▸ rfl, HB2.out⟩
    · go_wp2_with fail
      go_ret3
      exact ⟨(show P + 2 = n2 by omega) ▸ rfl, HB2.out⟩
    · go_wp2_with fail
      go_ret3
      exact ⟨(show P + 2 = n2 by omega) ▸ rfl, HB2.out⟩
    · go_wp2_with fail
      go_ret3
      exact ⟨(show P + 2 = n2 by omega) ▸ rfl, HB2.out⟩
    · go_wp2_with fail
      go_ret3
      exact ⟨(show P + 2 = n2 by omega) ▸ rfl, HB2.out⟩
    · go_wp2_with fail
      go_ret3
      exact ⟨(show P + 2 = n2 by omega) ▸ rfl, HB2.out⟩
    · go_wp2_with fail
      go_ret3
      exact ⟨(show P + 2 = n2 by omega) ▸ rfl, HB2.out⟩
    · go_wp2_with fail
      go_ret3
      exact ⟨(show P + 2 = n2 by omega) ▸ rfl, HB2.out⟩
    · go_wp2_with fail
      go_ret3
      exact ⟨(show P + 2 = n2 by omega) ▸ rfl, HB2.out⟩
    · have q98 : ((c : Int) == 98) = false := beq_eq_false_iff_ne.2 (by omega)
      have q102 : ((c : Int) == 102) = false := beq_eq_false_iff_ne.2 (by omega)
      have q110 : ((c : Int) == 110) = false := beq_eq_false_iff_ne.2 (by omega)
      have q114 : ((c : Int) == 114) = false := beq_eq_false_iff_ne.2 (by omega)
      have q116 : ((c : Int) == 116) = false := beq_eq_false_iff_ne.2 (by omega)
      have q118 : ((c : Int) == 118) = false := beq_eq_false_iff_ne.2 (by omega)
      have q48 : ((c : Int) == 48) = false := beq_eq_false_iff_ne.2 (by omega)
      have q49 : ((c : Int) == 49) = false := beq_eq_false_iff_ne.2 (by omega)
      have q50 : ((c : Int) == 50) = false := beq_eq_false_iff_ne.2 (by omega)
      have q51 : ((c : Int) == 51) = false := beq_eq_false_iff_ne.2 (by omega)
      have q52 : ((c : Int) == 52) = false := beq_eq_false_iff_ne.2 (by omega)
      have q53 : ((c : Int) == 53) = false := beq_eq_false_iff_ne.2 (by omega)
      have q54 : ((c : Int) == 54) = false := beq_eq_false_iff_ne.2 (by omega)
      have q55 : ((c : Int) == 55) = false := beq_eq_false_iff_ne.2 (by omega)
      have q56 : ((c : Int) == 56) = false := beq_eq_false_iff_ne.2 (by omega)
      have q57 : ((c : Int) == 57) = false := beq_eq_false_iff_ne.2 (by omega)
      have q120 : ((c : Int) == 120) = false := beq_eq_false_iff_ne.2 (by omega)
      have q117 : ((c : Int) == 117) = false := beq_eq_false_iff_ne.2 (by omega)
      have q13 : ((c : Int) == 13) = false := beq_eq_false_iff_ne.2 (by omega)
      have q10 : ((c : Int) == 10) = false := beq_eq_false_iff_ne.2 (by omega)
      have q8232 : ((c : Int) == 8232) = false := beq_eq_false_iff_ne.2 (by omega)
      have q8233 : ((c : Int) == 8233) = false := beq_eq_false_iff_ne.2 (by omega)
      have q34 : ((c : Int) == 34) = false := beq_eq_false_iff_ne.2 (by omega)
      have q92 : ((c : Int) == 92) = false := beq_eq_false_iff_ne.2 (by omega)
      have q47 : ((c : Int) == 47) = false := beq_eq_false_iff_ne.2 (by omega)
      clear hna ho
      go_wp2_with fail
      go_ret3
      exact ⟨(show P + 2 = n2 by omega) ▸ rfl, HB2.out⟩
  · obtain ⟨c0, W, hd⟩ : ∃ c W, dg T i = (c, W) := ⟨_, _, rfl⟩
    have hW := dg_cross (s := T) (K := P) hlt (by omega) (by rw [H.out.2.1]; decide)
    have hW1 := dg_pos T i hiT
    rw [hd] at hW hW1
    simp only at hW hW1
    have hc92 : c0 ≠ 92 := by
      rintro rfl
      exact H.out.1 i hlt (dg_small T i hiT hd (by decide)).1
    have hc0 : c0 ≤ 1114111 := dg_max T i hd
    obtain ⟨n1, hn1⟩ : ∃ n : Nat, i + W = n := ⟨_, rfl⟩
    have hn1i : ((i : Int) + (W : Int)) = (n1 : Int) := by omega
    rw [hn1] at hW
    have HR := Lib.hid (And.intro hO hB)
    have HD := Lib.hid hd
    have t92 : ((c0 : Int) == 92) = false := beq_eq_false_iff_ne.2 (by omega)
    clear hO hB hd hc92
    by_cases h13 : c0 = 13
    · subst h13
      have hn1T : n1 < T.size := by omega
      have e1 := byteAt_get T n1 hn1T
      obtain ⟨b, hb⟩ : ∃ b, byteAt T n1 = b := ⟨_, rfl⟩
      rw [hb] at e1
      have g1 : (0 : Int) ≤ (n1 : Int) := by omega
      have g2 : (n1 : Int) < (T.size : Int) := by omega
      by_cases h10 : b = 10
      · subst h10
        obtain ⟨n2, hn2⟩ : ∃ n2 : Nat, n1 + 1 = n2 := ⟨_, rfl⟩
        have hn2i : ((n1 : Int) + 1) = (n2 : Int) := by omega
        have hW2 : n2 ≤ P := by
          rcases (show n1 = P ∨ n1 < P by omega) with h | h
          · rw [h, H.out.2.1] at hb; omega
          · omega
        go_wp2_with (first
          | (go_at_call 9; refine (dri2 T i _ W wr hT.out HD.out).mono ?_; rintro e w1 ⟨rfl, b1⟩; have HR1 := Lib.hid (And.intro (HR.out.1.kept b1) (HR.out.2.trans (b1.mono hz2))); have hz3 := HR1.out.2.size; clear b1)
          | (at_builtin; refine wpList_push w1 rfl (.tmp 66) (.tmp 67) 26 rfl w.heap.size 77 .u16 2 Tryd.underlying26 info77 v zs 10 rfl HR1.out.1 rfl (by go_light; unfold maxLen; omega) (by go_light; omega) hz3 ?_; intro v' w5 ho5 hg5 hn5))
        refine Handed.intro (P - n2) (by go_light; omega) (hJ _ _ _ ⟨n2, v', rfl, by kernel_rfl, six (by kernel_rfl) (by kernel_rfl) (by kernel_rfl) (by kernel_rfl) (by kernel_rfl) (by kernel_rfl), hW2, Nat.le_refl _, ⟨_, ho5, by simp; omega⟩, HR1.out.2.grown hg5.1 hz3 (fun x e => (HR1.out.1.lt x e).1)⟩)
      · have t10 : ((b : Int) == 10) = false := beq_eq_false_iff_ne.2 (by omega)
        go_wp2_with (first
          | (go_at_call 9; refine (dri2 T i _ W wr hT.out HD.out).mono ?_; rintro e w1 ⟨rfl, b1⟩; have HR1 := Lib.hid (And.intro (HR.out.1.kept b1) (HR.out.2.trans (b1.mono hz2))); have hz3 := HR1.out.2.size; clear b1)
          | (at_builtin; refine wpList_push w1 rfl (.tmp 66) (.tmp 67) 26 rfl w.heap.size 77 .u16 2 Tryd.underlying26 info77 v zs 10 rfl HR1.out.1 rfl (by go_light; unfold maxLen; omega) (by go_light; omega) hz3 ?_; intro v' w5 ho5 hg5 hn5))
        refine Handed.intro (P - n1) (by go_light; omega) (hJ _ _ _ ⟨n1, v', rfl, by kernel_rfl, six (by kernel_rfl) (by kernel_rfl) (by kernel_rfl) (by kernel_rfl) (by kernel_rfl) (by kernel_rfl), hW, Nat.le_refl _, ⟨_, ho5, by simp; omega⟩, HR1.out.2.grown hg5.1 hz3 (fun x e => (HR1.out.1.lt x e).1)⟩)
    · have t13 : ((c0 : Int) == 13) = false := beq_eq_false_iff_ne.2 (by omega)
      clear h13
      by_cases hbig : c0 ≤ 65535
      · have hwu : IntKind.u16.wrap (c0 : Int) = (c0 : Int) := by simp [IntKind.wrap, IntKind.bits, IntKind.signed]; omega
        go_wp2_with (first
          | (go_at_call 9; refine (dri2 T i _ W wr hT.out HD.out).mono ?_; rintro e w1 ⟨rfl, b1⟩; have HR1 := Lib.hid (And.intro (HR.out.1.kept b1) (HR.out.2.trans (b1.mono hz2))); have hz3 := HR1.out.2.size; clear b1)
          | (at_builtin; refine wpList_push w1 rfl (.tmp 547) (.tmp 550) 26 rfl w.heap.size 77 .u16 2 Tryd.underlying26 info77 v zs c0 rfl HR1.out.1 rfl (by go_light; unfold maxLen; omega) (by go_light; omega) hz3 ?_; intro v' w5 ho5 hg5 hn5))
        refine Handed.intro (P - n1) (by go_light; omega) (hJ _ _ _ ⟨n1, v', rfl, by kernel_rfl, six (by kernel_rfl) (by kernel_rfl) (by kernel_rfl) (by kernel_rfl) (by kernel_rfl) (by kernel_rfl), hW, Nat.le_refl _, ⟨_, ho5, by simp; omega⟩, HR1.out.2.grown hg5.1 hz3 (fun x e => (HR1.out.1.lt x e).1)⟩)
      · have hbig' : (65535 : Int) < (c0 : Int) := by omega
        clear hbig
        go_wp2_with (first
          | (go_at_call 9; refine (dri2 T i _ W wr hT.out HD.out).mono ?_; rintro e w1 ⟨rfl, b1⟩; have HR1 := Lib.hid (And.intro (HR.out.1.kept b1) (HR.out.2.trans (b1.mono hz2))); have hz3 := HR1.out.2.size; clear b1)
          | (at_builtin; refine wpList_push2 w1 rfl (.tmp 554) (.tmp 564) 26 rfl w.heap.size 77 .u16 2 Tryd.underlying26 info77 v zs _ _ rfl HR1.out.1 rfl (by go_light; unfold maxLen; omega) (by go_light; omega) hz3 ?_; intro v' w5 ho5 hg5))
        refine Handed.intro (P - n1) (by go_light; omega) (hJ _ _ _ ⟨n1, v', rfl, by kernel_rfl, six (by kernel_rfl) (by kernel_rfl) (by kernel_rfl) (by kernel_rfl) (by kernel_rfl) (by kernel_rfl), hW, Nat.le_refl _, ⟨_, ho5, by simp; omega⟩, HR1.out.2.grown hg5.1 hz3 (fun x e => (HR1.out.1.lt x e).1)⟩)
end Go.Proofs.YtngdaapimgfaiaaDoor
