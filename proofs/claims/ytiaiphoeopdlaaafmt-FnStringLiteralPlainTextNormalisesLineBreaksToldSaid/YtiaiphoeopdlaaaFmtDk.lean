/-
  js_lexer's tryToDecodeEscapeSequences on a plain ASCII text. No statement of the seat is proved here.
-/
import Derived.Test.YtiaiphoeopdlaaaFmtFr
import Derived.Test.YtiaiphoeopdlaaaFmtNr
import Derived.Test.YtiaiphoeopdlaaaFmtOwn
import Derived.Deep.CutBlock
import Derived.Deep.DeepCutAuto
import Derived.Deep.LoopGhost
import Derived.Deep.Light
namespace Go.Proofs.YtiaiphoeopdlaaaFmt
open Go.RowKit
set_option linter.unusedVariables false
theorem info24 : (Tryf.prog.info? 24).map (fun i => (i.zero, i.size, i.bytes)) = some (some (.int .u16 0), 1, 2) := by kernel_rfl
/-- what the loop keeps -/
structure DR (T : ByteArray) (B : Nat) (w : World) (k : Nat) (i : Nat) (v : Value) (wr : World) : Prop where
  le : i ≤ T.size
  ms : T.size - i ≤ k
  own : ∃ zs, Own .u16 24 wr B v zs ∧ zs.length ≤ i ∧ NR T zs i
  nn : v ≠ .slice none 0 0
  bel : Below B w wr
def DI (p : Value) (s : Value) (T : ByteArray) (r : Value) (B : Nat) (w : World) (k : Nat) (a : Act) (wr : World) : Prop :=
  ∃ (i : Nat) (v : Value), a.defers = [] ∧ a.tmps.size = 567 ∧ (∀ q ∈ [(0, p), (1, s), (2, Value.string T), (3, r), (11, v), (12, Value.int .i64 (i : Int))], a.tmps[q.1]? = some q.2) ∧ DR T B w k i v wr
theorem six {a : Array Value} {p s t r v x : Value} (h0 : a[0]? = some p) (h1 : a[1]? = some s) (h2 : a[2]? = some t) (h3 : a[3]? = some r) (h11 : a[11]? = some v) (h12 : a[12]? = some x) :
    ∀ q ∈ [(0, p), (1, s), (2, t), (3, r), (11, v), (12, x)], a[q.1]? = some q.2 := by
  intro q hq
  simp only [List.mem_cons, List.not_mem_nil, or_false] at hq
  rcases hq with rfl | rfl | rfl | rfl | rfl | rfl <;> assumption
def DOk (T : ByteArray) (w : World) (e : Ending) (w' : World) : Prop := ∃ v, e = .returned (.tuple #[v, .bool true, .int .i64 0]) ∧ Own .u16 24 w' w.heap.size v (nrm T.data.toList) ∧ v ≠ .slice none 0 0 ∧ Below w.heap.size w w'
set_option maxRecDepth 1000000 in
set_option maxHeartbeats 4000000 in
theorem de_ok (p : Nat) (start : Int) (T : ByteArray) (rep : Bool) (w : World) (hz : T.size ≤ 65536) (hasc : ∀ j, j < T.size → byteAt T j < 128 ∧ byteAt T j ≠ 92) (ht : Lib.Utf8Tabs 0 1 w) :
    Calls Tryf.prog 8 #[.pointer (some ⟨p, 0, none⟩), .int .i64 start, .string T, .bool rep] w fun e w' => DOk T w e w' := by
  have H := Lib.hid (And.intro hasc ht)
  clear hasc ht
  go_enter Tryf.func8, Tryf.ntmps8
  go_wp2_with fail
  refine wp_loop_ghost_k (DI (.pointer (some ⟨p, 0, none⟩)) (.int .i64 start) T (.bool rep) w.heap.size w) T.size ?_ ?_
  · refine ⟨0, _, rfl, by kernel_rfl, six (by kernel_rfl) (by kernel_rfl) (by kernel_rfl) (by kernel_rfl) (v := .slice (some ⟨w.heap.size, 0, none⟩) 0 0) (by kernel_rfl) (by kernel_rfl), Nat.zero_le _, by omega, ?_, ?_, ?_⟩
    · exact ⟨[], Own.of_blk (k := .u16) (zs := []) (Blk.new w 24 #[]) (Nat.le_refl _) (by simp), by simp, NR.start T⟩
    · intro c; cases c
    · exact (Below.refl _ _).alloc (Nat.le_refl _) _
  intro gk a wr hI J K hJ hK
  obtain ⟨i, v, hd, hs, hl, hdr⟩ := hI
  obtain ⟨tmps, defers⟩ := a
  simp only at hd hs hl
  obtain ⟨us, hus⟩ : ∃ us : Nat → Value, tmps = frA _ us 567 := ⟨_, fr_of hs hl⟩
  rw [fr8] at hus
  subst hus
  subst hd
  clear hs hl
  obtain ⟨hi, hk, ⟨zs, hO, hzl, hNR⟩, hnn, hB⟩ := hdr
  have w0 : 1 < w.heap.size := World.block_lt_of_cell? w ⟨1, 0, none⟩ (H.out.2.2 0 (by decide)).1
  have hz2 := hB.size
  have f1 : (0 : Int) ≤ (i : Int) := by omega
  have f2 : (i : Int) ≤ (T.size : Int) := by omega
  have hT : Hid (Lib.Utf8Tabs 0 1 wr) := Lib.hid (tabs_below H.out.2 hB (by omega) (by omega))
  have HR := Lib.hid (And.intro hO hB)
  have HN := Lib.hid (And.intro hNR hnn)
  clear hO hB hNR hnn
  rcases (show T.size = i ∨ i < T.size by omega) with he | hlt
  · have HE := Lib.hid he
    have d0 : decide ((i : Int) < (T.size : Int)) = false := by simp; omega
    have d00 : decide (i < T.size) = false := by simp; omega
    clear he
    go_wp2_with fail
    go_ret3
    exact ⟨v, rfl, by rw [← HN.out.1.stop (by rw [HE.out]; exact Nat.le_refl _)]; exact HR.out.1, HN.out.2, HR.out.2⟩
  · obtain ⟨b, hb⟩ : ∃ b, byteAt T i = b := ⟨_, rfl⟩
    have hab := H.out.1 i hlt
    rw [hb] at hab
    have HD : Hid (dg T i = (b, 1)) := Lib.hid (by rw [dg_ascii T i hlt (by rw [hb]; exact hab.1), hb])
    have HBT := Lib.hid hb
    clear hb
    obtain ⟨n1, hn1⟩ : ∃ n : Nat, i + 1 = n := ⟨_, rfl⟩
    have hn1i : ((i : Int) + 1) = (n1 : Int) := by omega
    have t92 : ((b : Int) == 92) = false := beq_eq_false_iff_ne.2 (by omega)
    by_cases h13 : b = 13
    · subst h13
      rcases (show n1 = T.size ∨ n1 < T.size by omega) with he | hlt1
      · have g2 : decide ((n1 : Int) < (T.size : Int)) = false := by simp; omega
        have g20 : decide (n1 < T.size) = false := by simp; omega
        have HE := Lib.hid he
        have hle : n1 ≤ T.size := by omega
        clear he
        go_wp2_with (first
          | (go_at_call 10; refine (dri2 T i _ 1 wr hT.out HD.out).mono ?_; rintro e w1 ⟨rfl, b1⟩; have HR1 := Lib.hid (And.intro (HR.out.1.kept b1) (HR.out.2.trans (b1.mono hz2))); have hz3 := HR1.out.2.size; clear b1)
          | (at_builtin; refine wpList_push w1 rfl (.tmp 66) (.tmp 67) 23 rfl w.heap.size 24 .u16 2 Tryf.underlying23 info24 v zs 10 rfl HR1.out.1 rfl (by go_light; unfold maxLen; omega) (by go_light; omega) hz3 ?_; intro v' w5 ho5 hg5 hn5))
        refine Handed.intro (T.size - n1) (by go_light; omega) (hJ _ _ _ ⟨n1, v', rfl, by kernel_rfl, six (by kernel_rfl) (by kernel_rfl) (by kernel_rfl) (by kernel_rfl) (by kernel_rfl) (by kernel_rfl), by go_light; omega, Nat.le_refl _, ⟨_, ho5, by simp; omega, by rw [← hn1]; exact HN.out.1.cr hlt HBT.out (.inl (by rw [hn1]; exact HE.out))⟩, hn5, HR1.out.2.grown hg5.1 hz3 (fun x e => (HR1.out.1.lt x e).1)⟩)
      · have e1 := byteAt_get T n1 hlt1
        obtain ⟨b2, hb2⟩ : ∃ b, byteAt T n1 = b := ⟨_, rfl⟩
        rw [hb2] at e1
        have HB2 := Lib.hid hb2
        clear hb2
        have g1 : (0 : Int) ≤ (n1 : Int) := by omega
        have g2 : (n1 : Int) < (T.size : Int) := by omega
        by_cases h10 : b2 = 10
        · subst h10
          obtain ⟨n2, hn2⟩ : ∃ n2 : Nat, n1 + 1 = n2 := ⟨_, rfl⟩
          have hn2i : ((n1 : Int) + 1) = (n2 : Int) := by omega
          go_wp2_with (first
            | (go_at_call 10; refine (dri2 T i _ 1 wr hT.out HD.out).mono ?_; rintro e w1 ⟨rfl, b1⟩; have HR1 := Lib.hid (And.intro (HR.out.1.kept b1) (HR.out.2.trans (b1.mono hz2))); have hz3 := HR1.out.2.size; clear b1)
            | (at_builtin; refine wpList_push w1 rfl (.tmp 66) (.tmp 67) 23 rfl w.heap.size 24 .u16 2 Tryf.underlying23 info24 v zs 10 rfl HR1.out.1 rfl (by go_light; unfold maxLen; omega) (by go_light; omega) hz3 ?_; intro v' w5 ho5 hg5 hn5))
          refine Handed.intro (T.size - n2) (by go_light; omega) (hJ _ _ _ ⟨n2, v', rfl, by kernel_rfl, six (by kernel_rfl) (by kernel_rfl) (by kernel_rfl) (by kernel_rfl) (by kernel_rfl) (by kernel_rfl), by go_light; omega, Nat.le_refl _, ⟨_, ho5, by simp; omega, by rw [← hn2, ← hn1]; exact HN.out.1.crlf (by omega) HBT.out (by rw [hn1]; exact HB2.out)⟩, hn5, HR1.out.2.grown hg5.1 hz3 (fun x e => (HR1.out.1.lt x e).1)⟩)
        · have t10 : ((b2 : Int) == 10) = false := beq_eq_false_iff_ne.2 (by omega)
          have HNE := Lib.hid h10
          clear h10
          go_wp2_with (first
            | (go_at_call 10; refine (dri2 T i _ 1 wr hT.out HD.out).mono ?_; rintro e w1 ⟨rfl, b1⟩; have HR1 := Lib.hid (And.intro (HR.out.1.kept b1) (HR.out.2.trans (b1.mono hz2))); have hz3 := HR1.out.2.size; clear b1)
            | (at_builtin; refine wpList_push w1 rfl (.tmp 66) (.tmp 67) 23 rfl w.heap.size 24 .u16 2 Tryf.underlying23 info24 v zs 10 rfl HR1.out.1 rfl (by go_light; unfold maxLen; omega) (by go_light; omega) hz3 ?_; intro v' w5 ho5 hg5 hn5))
          refine Handed.intro (T.size - n1) (by go_light; omega) (hJ _ _ _ ⟨n1, v', rfl, by kernel_rfl, six (by kernel_rfl) (by kernel_rfl) (by kernel_rfl) (by kernel_rfl) (by kernel_rfl) (by kernel_rfl), by go_light; omega, Nat.le_refl _, ⟨_, ho5, by simp; omega, by rw [← hn1]; exact HN.out.1.cr hlt HBT.out (.inr (by rw [hn1, HB2.out]; exact HNE.out))⟩, hn5, HR1.out.2.grown hg5.1 hz3 (fun x e => (HR1.out.1.lt x e).1)⟩)
    · have t13 : ((b : Int) == 13) = false := beq_eq_false_iff_ne.2 (by omega)
      have H13 := Lib.hid h13
      have hb1 := hab.1
      clear h13 hab
      have hwu : IntKind.u16.wrap (b : Int) = (b : Int) := by simp [IntKind.wrap, IntKind.bits, IntKind.signed]; omega
      go_wp2_with (first
        | (go_at_call 10; refine (dri2 T i _ 1 wr hT.out HD.out).mono ?_; rintro e w1 ⟨rfl, b1⟩; have HR1 := Lib.hid (And.intro (HR.out.1.kept b1) (HR.out.2.trans (b1.mono hz2))); have hz3 := HR1.out.2.size; clear b1)
        | (at_builtin; refine wpList_push w1 rfl (.tmp 547) (.tmp 550) 23 rfl w.heap.size 24 .u16 2 Tryf.underlying23 info24 v zs b rfl HR1.out.1 rfl (by go_light; unfold maxLen; omega) (by go_light; omega) hz3 ?_; intro v' w5 ho5 hg5 hn5))
      refine Handed.intro (T.size - n1) (by go_light; omega) (hJ _ _ _ ⟨n1, v', rfl, by kernel_rfl, six (by kernel_rfl) (by kernel_rfl) (by kernel_rfl) (by kernel_rfl) (by kernel_rfl) (by kernel_rfl), by go_light; omega, Nat.le_refl _, ⟨_, ho5, by simp; omega, by rw [← hn1]; exact HN.out.1.other hlt HBT.out H13.out⟩, hn5, HR1.out.2.grown hg5.1 hz3 (fun x e => (HR1.out.1.lt x e).1)⟩)
end Go.Proofs.YtiaiphoeopdlaaaFmt
