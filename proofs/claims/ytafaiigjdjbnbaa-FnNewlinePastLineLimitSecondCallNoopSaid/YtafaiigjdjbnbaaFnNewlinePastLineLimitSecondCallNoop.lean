/-
  For every buffer, line limit, minify flag and indent the law FnNewlinePastLineLimitSecondCallNoop returns true: where the limit is positive and leaves room for the indent, a second printNewlinePastLineLimit call made right after the first answers false and changes nothing (outside its premise it returns true too). No conditions.
-/
import Derived.Test.YtafaiigjdjbnbaaRows
import Derived.WalkKit
import Derived.ProofKit
import Derived.OpenShut
import Derived.ShutString
import Derived.ChangeOld
import Derived.Below
import Derived.Test.YtafaiigjdjbnbaaNl
namespace Go.Proofs.Ytafaiigjdjbnbaa.fnNewlinePastLineLimitSecondCallNoop
open Go.ChangeShapes Go.WideShapes Go.ChangeAt Go.RowKit
open Go.ChangeMaps (open_string shut_string)
set_option linter.unusedVariables false

theorem own : ownKnob Try.prog.godebug = none := by kernel_rfl
theorem laidOut : laidOutB Try.prog = true := by kernel_rfl

/-- WHAT THE WALK IS TOLD OF A SLICE OF INTEGERS THAT CAME IN: it is nil; or it leads to a row of 'cap' cells, the numbers 'zs' (the first 'len' are its elements, the rest its spare room), each fitting its kind. -/
def IsRow (k : IntKind) (w : World) (a : Option Addr) (len cap : Nat) (zs : List Int) : Prop :=
  (a = none ∧ len = 0 ∧ cap = 0 ∧ zs = []) ∨
  ∃ x, a = some x ∧ len ≤ cap ∧ cap ≤ maxLen ∧ zs.length = cap ∧ (∀ i, i < zs.length → w.cell? (x.add i) = some (.int k (zs.getD i 0))) ∧ ∀ n ∈ zs, (Lit.int k n).wf = true

theorem row_in {k : IntKind} {w : World} {a : Option Addr} {len cap : Nat} {z : List Int} (h : IsRow k w a len cap z) : ∃ zs : List Int, zs.length = len ∧ In k w a zs ∧ zs.length ≤ maxLen := by
  rcases h with ⟨rfl, rfl, rfl, rfl⟩ | ⟨x, rfl, h1, h2, h3, h4, _⟩
  · exact ⟨[], rfl, .inl rfl, by simp⟩
  · have hl : (z.take len).length = len := by rw [List.length_take]; omega
    refine ⟨z.take len, hl, ?_, by omega⟩
    by_cases h0 : len = 0
    · subst h0; exact .inl (by simp)
    · obtain ⟨b, off, spot⟩ := x
      have hc := h4 0 (by omega)
      have hspot : spot = none := by simpa [Addr.add] using World.cell?_spot hc
      subst hspot
      refine .inr ⟨b, off, rfl, World.block_lt_of_cell? w _ hc, fun i hi => ?_⟩
      have := h4 i (by omega)
      have e : (⟨b, off, none⟩ : Addr).add i = ⟨b, off + i, none⟩ := by unfold Addr.add; split <;> simp_all
      rw [e] at this
      rw [this, nth_take z len i (by omega)]; rfl
theorem bytes_yes (a0 : Option Addr) (n c : Nat) (l d : Int) (m : Bool) (w : World) (h : n ≤ 1048576) : Calls Try.prog 9 #[.slice a0 n c, .int .i64 l, .bool m, .int .i32 d] w fun e w' => e = .returned (.bool true) ∧ w' = w := by
  go_enter Try.func9, Try.ntmps9
  go_wp2
  go_ret
  exact ⟨rfl, rfl⟩
theorem bytes_no (a0 : Option Addr) (n c : Nat) (l d : Int) (m : Bool) (w : World) (h : 1048576 < n) : Calls Try.prog 9 #[.slice a0 n c, .int .i64 l, .bool m, .int .i32 d] w fun e w' => e = .returned (.bool false) ∧ w' = w := by
  go_enter Try.func9, Try.ntmps9
  go_wp2
  go_ret
  exact ⟨rfl, rfl⟩
theorem bad1 (a0 : Option Addr) (n c : Nat) (l d : Int) (m : Bool) (w : World) (h : 1048576 < n) : Calls Try.prog 4 #[.slice a0 n c, .int .i64 l, .bool m, .int .i32 d] w fun e w' => e = .returned (.bool true) ∧ Below w.heap.size w w' := by
  go_enter Try.func4, Try.ntmps4
  go_wp2_with fail
  refine (bytes_no _ _ _ _ _ _ _ h).mono ?_
  rintro e w1 ⟨rfl, rfl⟩
  go_wp2
  go_ret
  exact ⟨rfl, Below.refl _ _⟩
theorem bad2 (a0 : Option Addr) (n c : Nat) (l d : Int) (m : Bool) (w : World) (h : n ≤ 1048576) (k : 65536 < d ∨ (d ≤ 65536 ∧ l ≤ 0)) : Calls Try.prog 4 #[.slice a0 n c, .int .i64 l, .bool m, .int .i32 d] w fun e w' => e = .returned (.bool true) ∧ Below w.heap.size w w' := by
  rcases k with k | ⟨k, k1⟩
  all_goals
    go_enter Try.func4, Try.ntmps4
    go_wp2_with fail
    refine (bytes_yes _ _ _ _ _ _ _ h).mono ?_
    rintro e w1 ⟨rfl, rfl⟩
    go_wp2
    go_ret
    exact ⟨rfl, Below.refl _ _⟩
theorem bad3 (a0 : Option Addr) (n c : Nat) (l d : Int) (w : World) (h : n ≤ 1048576) (h0 : 0 < l) (hl2 : l ≤ 9223372036854775807) (hd0 : -2147483648 ≤ d) (hd1 : d ≤ 65536) (k : l ≤ 2 * (lev l d : Nat)) : Calls Try.prog 4 #[.slice a0 n c, .int .i64 l, .bool false, .int .i32 d] w fun e w' => e = .returned (.bool true) ∧ Below w.heap.size w w' := by
  go_enter Try.func4, Try.ntmps4
  go_wp2_with fail
  refine (bytes_yes _ _ _ _ _ _ _ h).mono ?_
  rintro e w1 ⟨rfl, rfl⟩
  go_wp2_with fail
  refine (width_any l d _ h0 hl2 hd0 hd1).mono ?_
  rintro e w1 ⟨rfl, rfl⟩
  go_wp2
  go_ret
  exact ⟨rfl, Below.refl _ _⟩
theorem pr_kept {w w' : World} {B p : Nat} {l : Int} {m a : Bool} {zs : List Int} {s e : Int} (h : Pr w B p l m a zs s e) (hb : Below w.heap.size w w') : Pr w' B p l m a zs s e := by
  obtain ⟨ao, c, h1, h2, h3, h4⟩ := h
  exact ⟨ao, c, h1.kept hb, h2.kept hb, h3, h4⟩
/-- what the printer is behind the first call: the second will be under the limit -/
theorem after (B p : Nat) (l d : Int) (m : Bool) (zs : List Int) (w : World) (hp : Pr w B p l m false zs 0 0) (hB : B ≤ w.heap.size) (hl : zs.length ≤ 1048576) (h0 : 0 < l) (hl2 : l ≤ 9223372036854775807) (hd0 : -2147483648 ≤ d) (hd1 : d ≤ 65536) (hw : (if m then 0 else 2 * (lev l d : Nat) : Int) < l) :
    Calls Try.prog 13 #[.pointer (some ⟨p, 0, none⟩), .int .i32 d] w fun en w' => ∃ (b : Bool) (ys : List Int) (s e : Nat), en = .returned (.bool b) ∧ Pr w' B p l m false ys s e ∧ s ≤ e ∧ e ≤ ys.length ∧ ys.length ≤ 1310720 ∧ ((ys.length : Int) - (lf ys e s ys.length : Nat) < l) ∧ Below B w w' := by
  have hBp : B ≤ p := by obtain ⟨_, _, _, _, _, h⟩ := hp; exact h
  have hlev : lev l d ≤ 65536 := by unfold lev; split <;> omega
  by_cases hc : (zs.length : Int) - (lf zs 0 0 zs.length : Nat) < l
  · refine (zznl_no B p l m false zs 0 0 d w hp (by omega) (Nat.le_refl _) (Nat.zero_le _) hc).mono ?_
    rintro en w' ⟨rfl, h1, h2⟩
    have hle := lf_le zs 0 0 (Nat.le_refl _) zs.length (Nat.zero_le _)
    exact ⟨false, zs, _, _, rfl, h1, hle, Nat.le_refl _, by omega, by rw [lf_stop _ _ _ _ (Nat.le_refl _)]; exact hc, below_gb (Below.refl _ _) h2 hB hBp⟩
  · refine (zznl_yes B p l m false zs 0 0 d w hp hB hl (Nat.le_refl _) (Nat.zero_le _) (by omega) h0 hl2 hd0 hd1).mono ?_
    rintro en w' ⟨rfl, h1, h2⟩
    have hle := lf_le zs 0 0 (Nat.le_refl _) zs.length (Nat.zero_le _)
    have hlen : (nlOut m l d zs).length = zs.length + 1 + 2 * (if m then 0 else lev l d) := by unfold nlOut; simp; omega
    have hx : (if m then 0 else lev l d) ≤ 65536 := by split <;> omega
    have hlf : lf (nlOut m l d zs) zs.length (lf zs 0 0 zs.length) (nlOut m l d zs).length = zs.length + 1 := by
      rw [hlen]
      exact lf_new zs zs.length (lf zs 0 0 zs.length) (if m then 0 else lev l d) (Nat.le_refl _) (Nat.le_refl _) _ (Nat.le_refl _)
    refine ⟨true, nlOut m l d zs, _, _, rfl, h1, hle, by omega, by omega, ?_, h2⟩
    rw [hlf, hlen]
    cases m <;> simp at hw ⊢ <;> omega
set_option maxHeartbeats 1000000 in
theorem good (a0 : Option Addr) (c0 : Nat) (l d : Int) (m : Bool) (zs : List Int) (w : World) (hin : In .u8 w a0 zs) (hl : zs.length ≤ 1048576) (h0 : 0 < l) (hl2 : l ≤ 9223372036854775807) (hd0 : -2147483648 ≤ d) (hd1 : d ≤ 65536) (hw : (if m then 0 else 2 * (lev l d : Nat) : Int) < l) :
    Calls Try.prog 4 #[.slice a0 zs.length c0, .int .i64 l, .bool m, .int .i32 d] w fun e w' => e = .returned (.bool true) ∧ Below w.heap.size w w' := by
  have HI := Lib.hid hin
  have HW := Lib.hid hw
  clear hin hw
  have d0 : decide ((1048576 : Int) < (zs.length : Int)) = false := by simp; omega
  have d1 : decide ((65536 : Int) < d) = false := by simp; omega
  have d2 : decide (l ≤ 0) = false := by simp; omega
  rcases m with _ | _
  all_goals
    first
      | (have hwl : 2 * ((lev l d : Nat) : Int) < l := by simpa using HW.out
         go_enter Try.func4, Try.ntmps4
         go_wp2_with fail
         refine (bytes_yes _ _ _ _ _ _ _ hl).mono ?_
         rintro e w1 ⟨rfl, rfl⟩
         go_wp2_with fail
         refine (width_any l d _ h0 hl2 hd0 hd1).mono ?_
         rintro e w1 ⟨rfl, rfl⟩
         go_wp2_with fail)
      | (go_enter Try.func4, Try.ntmps4
         go_wp2_with fail
         refine (bytes_yes _ _ _ _ _ _ _ hl).mono ?_
         rintro e w1 ⟨rfl, rfl⟩
         go_wp2_with fail)
    refine (copyB_any a0 c0 zs _ HI.out (by omega)).mono ?_
    rintro e w2 ⟨v2, rfl, ho2, hb2⟩
    obtain ⟨ao, cap, rfl, hin2, _, _⟩ := ho2.form
    have H2 := Lib.hid (And.intro hb2 hin2)
    clear ho2 hb2 hin2
    go_wp2_with fail
    refine (copyB_any ao cap zs _ H2.out.2 (by omega)).mono ?_
    rintro e w3 ⟨v3, rfl, ho3, hb3⟩
    obtain ⟨ao3, cap3, rfl, _, _, _⟩ := ho3.form
    have H3 := Lib.hid (And.intro (below_two H2.out.1 hb3) (ho3.mono H2.out.1.size))
    clear ho3 hb3
    go_wp2_with fail
    refine (new125_any _ ao3 cap3 l _ zs _ H3.out.2 H3.out.1.size).mono ?_
    rintro e w4 ⟨rfl, hp4, hb4⟩
    have H4 := Lib.hid (And.intro hp4 (below_then H3.out.1 hb4 H3.out.1.size))
    clear hp4 hb4
    go_wp2_with fail
    refine (after _ _ l d _ zs _ H4.out.1 H4.out.2.size hl h0 hl2 hd0 hd1 HW.out).mono ?_
    rintro e w5 ⟨b, ys, s5, e5, rfl, hp5, q1, q2, q3, q4, hb5⟩
    have H5 := Lib.hid (And.intro hp5 (H4.out.2.trans hb5))
    have HQ := Lib.hid q4
    clear hp5 hb5 q4
    go_wp2_with fail
    refine (css125_any _ _ _ _ _ _ _ _ _ H5.out.1).mono ?_
    rintro e w6 ⟨⟨v6, rfl, ho6⟩, rfl⟩
    obtain ⟨ao6, cap6, rfl, hin6, _, _⟩ := ho6.form
    have H6 := Lib.hid hin6
    clear ho6 hin6
    go_wp2_with fail
    refine (copyB_any ao6 cap6 ys _ H6.out (by omega)).mono ?_
    rintro e w7 ⟨v7, rfl, ho7, hb7⟩
    obtain ⟨ao7, cap7, rfl, _, _, _⟩ := ho7.form
    have hpl := (pr_c3 H5.out.1).2.2
    have H7 := Lib.hid (And.intro (pr_kept H5.out.1 hb7) (And.intro ho7 (H5.out.2.trans (hb7.mono H5.out.2.size))))
    clear ho7 hb7
    go_wp2_with fail
    refine (zznl_no _ _ l _ false ys s5 e5 d _ H7.out.1 (by omega) q1 q2 HQ.out).mono ?_
    rintro e w8 ⟨rfl, hp8, hg8⟩
    have ho8 := H7.out.2.1.gb hg8 (.inr (fun h => by have := (H7.out.2.1.lt _ h).1; omega))
    obtain ⟨_, _, hx8, hin8, _, _⟩ := ho8.form
    cases hx8
    have hBp : w1.heap.size ≤ w3.heap.size := H3.out.1.size
    have H8 := Lib.hid (And.intro hp8 (And.intro hin8 (below_gb H7.out.2.2 hg8 H7.out.2.2.size hBp)))
    clear hp8 hg8 ho8 hin8
    go_wp2_with fail
    refine (css125_any _ _ _ _ _ _ _ _ _ H8.out.1).mono ?_
    rintro e w9 ⟨⟨v9, rfl, ho9⟩, rfl⟩
    obtain ⟨ao9, cap9, rfl, hin9, _, _⟩ := ho9.form
    have H9 := Lib.hid hin9
    clear ho9 hin9
    go_wp2_with fail
    refine (same_any ao7 ao9 _ _ ys _ H8.out.2.1 H9.out (by omega)).mono ?_
    rintro e w10 ⟨rfl, b10⟩
    have H10 := Lib.hid (below_then H8.out.2.2 b10 H8.out.2.2.size)
    clear b10
    go_wp2
    go_ret
    exact ⟨rfl, H10.out⟩

theorem walk (a0 : Option Addr) (len0 cap0 : Nat) (z0 : List Int) (a1 : Int) (a2 : Bool) (a3 : Int) (w : World) (w0 : IsRow .u8 w a0 len0 cap0 z0) (w1 : (Lit.int .i64 a1).wf = true) (w3 : (Lit.int .i32 a3).wf = true) :
    Calls Try.prog 4 #[.slice a0 len0 cap0, .int .i64 a1, .bool a2, .int .i32 a3] w fun e w' => e = .returned (.bool true) ∧ Below w.heap.size w w' := by
  obtain ⟨zs, hx0, hI0, m0⟩ := row_in w0
  subst hx0
  have b1 := bounds_i64 w1
  have b3 := bounds_i32 w3
  by_cases hs : zs.length ≤ 1048576
  rotate_left
  · exact bad1 _ _ _ _ _ _ _ (by omega)
  by_cases hg : a3 ≤ 65536 ∧ 0 < a1
  rotate_left
  · exact bad2 _ _ _ _ _ _ _ hs (by omega)
  by_cases hw : (if a2 then 0 else 2 * (lev a1 a3 : Nat) : Int) < a1
  · exact good _ _ a1 a3 a2 zs w hI0 hs hg.2 b1.2 b3.1 hg.1 hw
  · cases a2
    · exact bad3 _ _ _ _ _ _ hs hg.2 b1.2 b3.1 hg.1 (by simpa using hw)
    · exfalso; simp at hw; omega

set_option maxRecDepth 100000 in
theorem lifted (os : Os) (started : os.Started) (H : Type) (enc : TypeId × Value → H) :
    ReturnsInHanded {} Try.checked os 4 .any (Rows.fnNewlinePastLineLimitSecondCallNoopSpec.pre6 enc Try.prog Try.f4 Rows.fnNewlinePastLineLimitSecondCallNoopRow.domain false) (Rows.fnNewlinePastLineLimitSecondCallNoopSpec.post enc Try.prog Try.f4 false true false false) := by
  refine returnsInHanded_of_change (C := Try.checked) own started (by kernel_rfl) Try.func4
    (ChangeSpec.witness6 (enc := enc) (C := Try.checked) false ⟨#[], #[.slice none 0 0, .int .i64 0, .bool false, .int .i32 0], []⟩ 8 (by kernel_rfl) (by kernel_rfl) (by kernel_rfl) (by kernel_rfl)) ?_
  intro W base args ds gs before hval0 hW hcnd _
  have hval : ∀ (j : Nat) t v, Try.f4.params[j]? = some t → args[j]? = some v → Value.okWide Try.prog W .any base t v := hval0
  have hW' := hW
  obtain ⟨p, q, hA0, hV, rfl, hfz, hnd⟩ := hW
  have hA : DataW.TrodAll enc Try.prog W 0 (fun _ => true) true Try.f4.params.toList args.toList ds p := hA0
  rw [Try.params4] at hA hval
  obtain ⟨v0, vs0, d0, ds0, p0, q0, hargs, rfl, rfl, h0, r0⟩ := trodAll_cons hA
  obtain ⟨v1, vs1, d1, ds1, p1, q1, rfl, rfl, rfl, h1, r1⟩ := trodAll_cons r0
  obtain ⟨v2, vs2, d2, ds2, p2, q2, rfl, rfl, rfl, h2, r2⟩ := trodAll_cons r1
  obtain ⟨v3, vs3, d3, ds3, p3, q3, rfl, rfl, rfl, h3, r3⟩ := trodAll_cons r2
  obtain ⟨rfl, rfl, rfl⟩ := trodAll_nil r3
  obtain rfl : args = #[v0, v1, v2, v3] := by cases args; simp_all
  obtain ⟨rfl, rfl⟩ := trodVars_none hV
  obtain ⟨a0, len0, cap0, rfl⟩ := okWide_slice Try.underlying27 (hval 0 27 v0 rfl rfl)
  have k0 := h0
  have lt0 : ∀ x ∈ p0, x.block < W.heap.size := by obtain ⟨m, hm⟩ := k0; exact DataW.trod_lt m _ _ _ hm
  obtain ⟨z0, w0⟩ : ∃ zs, IsRow .u8 W a0 len0 cap0 zs := by
    obtain ⟨fuel, hf⟩ := h0
    rcases open_ints Try.underlying27 Try.underlying5 (by kernel_rfl) hf with ⟨hcs, _⟩ | ⟨x, l, c, zs, hcs, _, hl, hm, hz, _, hcell, hwz⟩
    · simp [Value.cells] at hcs
      obtain ⟨rfl, rfl, rfl⟩ := hcs
      exact ⟨[], .inl ⟨rfl, rfl, rfl, rfl⟩⟩
    · simp [Value.cells] at hcs
      obtain ⟨rfl, rfl, rfl⟩ := hcs
      exact ⟨zs, .inr ⟨_, rfl, hl, hm, by simpa using hz, hcell, hwz⟩⟩
  obtain ⟨a1, rfl, rfl, rfl, w1⟩ := open_int Try.underlying3 (hval 1 3 v1 rfl rfl) h1
  obtain ⟨a2, rfl, rfl, rfl⟩ := open_bool Try.underlying4 (hval 2 4 v2 rfl rfl) h2
  obtain ⟨a3, rfl, rfl, rfl, w3⟩ := open_int Try.underlying21 (hval 3 21 v3 rfl rfl) h3
  clear hA0 hval0
  refine (walk a0 len0 cap0 z0 a1 a2 a3 W w0 w1 w3).mono fun e W' ⟨he, bel⟩ => ?_
  subst he
  exact ⟨_, rfl, _, _, _, [], _, [], hW', trodAll_mk1 (shut_bool Try.underlying4 _), (trodAll_cons_mk (Below.trod laidOut (by kernel_rfl) (of_decide_eq_true (by kernel_rfl)) k0 bel lt0) (trodAll_cons_mk (shut_int Try.underlying3 w1) (trodAll_cons_mk (shut_bool Try.underlying4 _) (trodAll_cons_mk (shut_int Try.underlying21 w3) trodAll_mk0)))), rfl, bel.frame _, fun h => by cases h⟩

theorem over : Rows.fnNewlinePastLineLimitSecondCallNoopRow.holds Try.pinned (OpenSpec.ofChange Rows.fnNewlinePastLineLimitSecondCallNoopSpec) :=
  OpenClaim.holds_of_wide 4 Try.f4 rfl rfl rfl rfl rfl rfl rfl ⟨rfl, rfl, rfl, rfl, rfl⟩ rfl rfl rfl rfl rfl (by kernel_rfl) Try.func4 (by kernel_rfl)
    (of_decide_eq_true (by kernel_rfl)) (by unfold Func.isWrapper; first | (rw [if_pos (by decide +kernel)]; kernel_rfl) | (rw [if_neg (by decide +kernel)]; exact ⟨rfl, rfl⟩))
    (fun os started H enc _ => lifted os started H enc)

/-- THE STATEMENT -/
theorem proved : Rows.FnNewlinePastLineLimitSecondCallNoopSaid := over
#print axioms proved
end Go.Proofs.Ytafaiigjdjbnbaa.fnNewlinePastLineLimitSecondCallNoop
