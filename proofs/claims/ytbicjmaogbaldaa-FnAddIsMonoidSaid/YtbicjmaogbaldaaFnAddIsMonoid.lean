/-
  For all offsets a, b, c the law FnAddIsMonoid returns true: the zero offset is a left and right identity of Add, and Add is associative when b and c have line counts in 0 to 2^30. No conditions.
-/
import Derived.Test.YtbicjmaogbaldaaRows
import Derived.WalkKit
import Derived.ProofKit
import Derived.OpenShut
import Derived.Below
import Derived.ChangeOld
import Derived.ShutString
import Derived.WalkSpells
import Derived.WalkLawsBesides
import Derived.RegionTactic
import Derived.ChangeAlike
import Derived.Laws.StructEq
import Derived.Test.YtbicjmaogbaldaaBase
namespace Go.Proofs.Ytbicjmaogbaldaa.fnAddIsMonoid
open Go.ChangeShapes Go.WideShapes Go.ChangeAt Go.RowKit
open Go.ChangeMaps (open_string shut_string)
set_option linter.unusedVariables false

theorem own : ownKnob Try.prog.godebug = none := by kernel_rfl

def addL (pl l : Int) : Int := if l = 0 then pl else wrap64 (pl + l)
def addC (pc l c : Int) : Int := if l = 0 then wrap64 (pc + c) else c

theorem add_any (b : Nat) (pl pc l c : Int) (w : World) (hb : w.heap[b]? = some (.cells #[.int .i64 pl, .int .i64 pc] 23 (0, 0))) :
    Calls Try.prog 8 #[.pointer (some ⟨b, 0, none⟩), .agg #[.int .i64 l, .int .i64 c]] w fun e w' =>
      e = .returned (.tuple #[]) ∧ w'.heap[b]? = some (.cells #[.int .i64 (addL pl l), .int .i64 (addC pc l c)] 23 (0, 0)) ∧ w.grownBy w' (some b) := by
  have hlt := blk_lt hb
  have c0 := blk_cell hb 0
  have c1 := blk_cell hb 1
  have f0 := blk_free hb 0
  have f1 := blk_free hb 1
  simp at c0 c1
  have HB := Lib.hid hb
  clear hb
  by_cases hl : l = 0
  · subst hl
    go_enter Try.func8, Try.ntmps8
    go_wp2
    go_region
    go_wp2
    go_end0
    refine ⟨rfl, ?_, by repeat (first | exact gb_refl _ _ | refine gb_drew ?_ | refine gb_alloc ?_ _ | refine gb_set ?_ _ _ _)⟩
    refine blk_drew (blk_alloc ?_ _)
    have := blk_set HB.out 1 (.int .i64 (wrap64 (pc + c)))
    simpa [addL, addC] using this
  · have hl' : (l == 0) = false := by simpa using hl
    go_enter Try.func8, Try.ntmps8
    go_wp2
    go_region
    go_wp2
    go_end0
    refine ⟨rfl, ?_, by repeat (first | exact gb_refl _ _ | refine gb_drew ?_ | refine gb_alloc ?_ _ | refine gb_set ?_ _ _ _)⟩
    refine blk_drew (blk_alloc ?_ _)
    have := blk_set (blk_set HB.out 0 (.int .i64 (wrap64 (pl + l)))) 1 (.int .i64 c)
    simpa [addL, addC, hl] using this

/-- block b holds the offset (x, y) -/
def Two (w : World) (b : Nat) (x y : Int) : Prop := w.heap[b]? = some (.cells #[.int .i64 x, .int .i64 y] 23 (0, 0))
theorem two_facts {w : World} {b : Nat} {x y : Int} (h : Two w b x y) : w.cell? ⟨b, 0, none⟩ = some (.int .i64 x) ∧ w.cell? ⟨b, 1, none⟩ = some (.int .i64 y) ∧ b < w.heap.size := by
  refine ⟨?_, ?_, blk_lt h⟩
  · rw [blk_cell h 0]; rfl
  · rw [blk_cell h 1]; rfl
theorem two_gb {w w' : World} {b k : Nat} {x y : Int} (h : Two w k x y) (hg : w.grownBy w' (some b)) (hne : k ≠ b) : Two w' k x y := gb_blk hg h (by simpa using hne)
theorem two_al {w : World} {k : Nat} {x y : Int} (h : Two w k x y) (o : Obj) : Two (w.alloc o) k x y := blk_alloc h o
theorem two_gn {w w' : World} {k : Nat} {x y : Int} {o : Obj} (h : Two w k x y) (hg : (w.alloc o).grownBy w' (some w.heap.size)) : Two w' k x y := two_gb (two_al h o) hg (by have := blk_lt h; omega)
theorem two_new (w : World) (x y : Int) : Two (w.alloc (.cells #[.int .i64 x, .int .i64 y] 23)) w.heap.size x y := blk_new w _
theorem add_two (b : Nat) (pl pc l c : Int) (w : World) (hb : Two w b pl pc) :
    Calls Try.prog 8 #[.pointer (some ⟨b, 0, none⟩), .agg #[.int .i64 l, .int .i64 c]] w fun e w' =>
      e = .returned (.tuple #[]) ∧ Two w' b (addL pl l) (addC pc l c) ∧ w.grownBy w' (some b) := add_any b pl pc l c w hb

/-- what the law compares, in plain numbers -/
theorem plain (al ac bl bc cl cc : Int) (w0 : (Lit.int .i64 al).wf = true) (w1 : (Lit.int .i64 ac).wf = true) (h1 : 0 ≤ bl) (h2 : bl ≤ 1073741824) (h3 : 0 ≤ cl) (h4 : cl ≤ 1073741824) :
    addL 0 al = al ∧ addC 0 al ac = ac ∧ addL al 0 = al ∧ addC ac 0 0 = ac ∧ addL (addL al bl) cl = addL al (addL bl cl) ∧ addC (addC ac bl bc) cl cc = addC ac (addL bl cl) (addC bc cl cc) := by
  have b0 := bounds_i64 w0
  have b1 := bounds_i64 w1
  unfold addL addC wrap64
  refine ⟨?_, ?_, ?_, ?_, ?_, ?_⟩ <;> (repeat' split) <;> omega

theorem walk (a0 : Int) (a1 : Int) (a2 : Int) (a3 : Int) (a4 : Int) (a5 : Int) (w0 : (Lit.int .i64 a0).wf = true) (w1 : (Lit.int .i64 a1).wf = true) (w2 : (Lit.int .i64 a2).wf = true) (w3 : (Lit.int .i64 a3).wf = true) (w4 : (Lit.int .i64 a4).wf = true) (w5 : (Lit.int .i64 a5).wf = true) (w : World) :
    Calls Try.prog 3 #[.int .i64 a0, .int .i64 a1, .int .i64 a2, .int .i64 a3, .int .i64 a4, .int .i64 a5] w fun e w' => e = .returned (.bool true) ∧ Below w.heap.size w w' := by
  by_cases h1 : a2 < 0
  · go_enter Try.func3, Try.ntmps3
    go_wp2
    go_ret
    exact ⟨rfl, Below.refl _ _⟩
  by_cases h2 : 1073741824 < a2
  · go_enter Try.func3, Try.ntmps3
    go_wp2
    go_ret
    exact ⟨rfl, Below.refl _ _⟩
  by_cases h3 : a4 < 0
  · go_enter Try.func3, Try.ntmps3
    go_wp2
    go_ret
    exact ⟨rfl, Below.refl _ _⟩
  by_cases h4 : 1073741824 < a4
  · go_enter Try.func3, Try.ntmps3
    go_wp2
    go_ret
    exact ⟨rfl, Below.refl _ _⟩
  obtain ⟨p1, p2, p3, p4, p5, p6⟩ := plain a0 a1 a2 a3 a4 a5 w0 w1 (by omega) (by omega) (by omega) (by omega)
  have P := Lib.hid (And.intro p1 (And.intro p2 (And.intro p3 (And.intro p4 (And.intro p5 p6)))))
  clear p1 p2 p3 p4 p5 p6
  have N4 : Below w.heap.size w ((((w.alloc (.cells #[.int .i64 a0, .int .i64 a1] 23)).alloc (.cells #[.int .i64 a2, .int .i64 a3] 23)).alloc (.cells #[.int .i64 a4, .int .i64 a5] 23)).alloc (.cells #[.int .i64 0, .int .i64 0] 23)) :=
    (((((Below.refl _ w).alloc (Nat.le_refl _) _).alloc (by simp) _).alloc (by simp; omega) _).alloc (by simp; omega) _)
  have T13 : Two ((((w.alloc (.cells #[.int .i64 a0, .int .i64 a1] 23)).alloc (.cells #[.int .i64 a2, .int .i64 a3] 23)).alloc (.cells #[.int .i64 a4, .int .i64 a5] 23)).alloc (.cells #[.int .i64 0, .int .i64 0] 23)) w.heap.size a0 a1 := two_al (two_al (two_al (two_new _ _ _) _) _) _
  have T14 : Two ((((w.alloc (.cells #[.int .i64 a0, .int .i64 a1] 23)).alloc (.cells #[.int .i64 a2, .int .i64 a3] 23)).alloc (.cells #[.int .i64 a4, .int .i64 a5] 23)).alloc (.cells #[.int .i64 0, .int .i64 0] 23)) (w.heap.size + 1) a2 a3 := by
    have := two_al (two_al (two_new (w.alloc (.cells #[.int .i64 a0, .int .i64 a1] 23)) a2 a3) (.cells #[.int .i64 a4, .int .i64 a5] 23)) (.cells #[.int .i64 0, .int .i64 0] 23)
    simpa using this
  have T15 : Two ((((w.alloc (.cells #[.int .i64 a0, .int .i64 a1] 23)).alloc (.cells #[.int .i64 a2, .int .i64 a3] 23)).alloc (.cells #[.int .i64 a4, .int .i64 a5] 23)).alloc (.cells #[.int .i64 0, .int .i64 0] 23)) (w.heap.size + 1 + 1) a4 a5 := by
    have := two_al (two_new ((w.alloc (.cells #[.int .i64 a0, .int .i64 a1] 23)).alloc (.cells #[.int .i64 a2, .int .i64 a3] 23)) a4 a5) (.cells #[.int .i64 0, .int .i64 0] 23)
    simpa using this
  have T16 : Two ((((w.alloc (.cells #[.int .i64 a0, .int .i64 a1] 23)).alloc (.cells #[.int .i64 a2, .int .i64 a3] 23)).alloc (.cells #[.int .i64 a4, .int .i64 a5] 23)).alloc (.cells #[.int .i64 0, .int .i64 0] 23)) (w.heap.size + 1 + 1 + 1) 0 0 := by
    have := two_new (((w.alloc (.cells #[.int .i64 a0, .int .i64 a1] 23)).alloc (.cells #[.int .i64 a2, .int .i64 a3] 23)).alloc (.cells #[.int .i64 a4, .int .i64 a5] 23)) 0 0
    simpa using this
  have S4 := Lib.hid (And.intro T13 (And.intro T14 (And.intro T15 (And.intro T16 N4))))
  clear T13 T14 T15 T16 N4
  go_enter Try.func3, Try.ntmps3
  go_wp2_with fail
  refine (add_two _ 0 0 a0 a1 _ S4.out.2.2.2.1).mono ?_
  rintro e w1 ⟨rfl, U16, hg⟩
  rw [P.out.1, P.out.2.1] at U16
  have U13 := two_gb S4.out.1 hg (by omega)
  have U14 := two_gb S4.out.2.1 hg (by omega)
  have U15 := two_gb S4.out.2.2.1 hg (by omega)
  have N1 := below_gb S4.out.2.2.2.2 hg (by simp; omega) (by omega)
  clear S4 hg
  have ⟨c1, c2, c3⟩ := two_facts U16
  have ⟨d1, d2, d3⟩ := two_facts U13
  have K := Lib.hid (And.intro U13 (And.intro U14 (And.intro U15 N1)))
  clear U13 U14 U15 U16 N1
  go_wp2_with fail
  refine (add_two _ a0 a1 0 0 _ (two_new w1 a0 a1)).mono ?_
  rintro e w2 ⟨rfl, U17, hg⟩
  rw [P.out.2.2.1, P.out.2.2.2.1] at U17
  have U13 := two_gn K.out.1 hg
  have U14 := two_gn K.out.2.1 hg
  have U15 := two_gn K.out.2.2.1 hg
  have N2 := below_gb (K.out.2.2.2.alloc (by omega) _) hg (by simp; omega) (by omega)
  clear K hg c1 c2 c3 d1 d2
  have ⟨c1, c2, c3⟩ := two_facts U17
  have ⟨d1, d2, d4⟩ := two_facts U13
  have ⟨e1, e2, e3⟩ := two_facts U14
  have q2 := (two_facts U15).2.2
  have K := Lib.hid (And.intro U13 (And.intro U14 (And.intro U15 N2)))
  clear U13 U14 U15 U17 N2
  go_wp2_with fail
  refine (add_two _ a0 a1 a2 a3 _ (two_new w2 a0 a1)).mono ?_
  rintro e w3 ⟨rfl, U18, hg⟩
  have U13 := two_gn K.out.1 hg
  have U14 := two_gn K.out.2.1 hg
  have U15 := two_gn K.out.2.2.1 hg
  have N3 := below_gb (K.out.2.2.2.alloc (by omega) _) hg (by simp; omega) (by omega)
  clear K hg c1 c2 c3 d1 d2 e1 e2
  have ⟨c1, c2, c3⟩ := two_facts U15
  have c4 := (two_facts U18).2.2
  have K := Lib.hid (And.intro U13 (And.intro U14 (And.intro U15 (And.intro U18 N3))))
  clear U13 U14 U15 U18 N3
  go_wp2_with fail
  refine (add_two _ _ _ a4 a5 _ K.out.2.2.2.1).mono ?_
  rintro e w4 ⟨rfl, U18, hg⟩
  have U13 := two_gb K.out.1 hg (by omega)
  have U14 := two_gb K.out.2.1 hg (by omega)
  have U15 := two_gb K.out.2.2.1 hg (by omega)
  have N4 := below_gb K.out.2.2.2.2 hg (by omega) (by omega)
  clear K hg c1 c2
  have ⟨c1, c2, c5⟩ := two_facts U14
  have ⟨f1, f2, f3⟩ := two_facts U15
  have c6 := (two_facts U18).2.2
  have K := Lib.hid (And.intro U13 (And.intro U14 (And.intro U15 (And.intro U18 N4))))
  clear U13 U14 U15 U18 N4
  go_wp2_with fail
  refine (add_two _ a2 a3 a4 a5 _ (two_new w4 a2 a3)).mono ?_
  rintro e w5 ⟨rfl, U19, hg⟩
  have U13 := two_gn K.out.1 hg
  have U18 := two_gn K.out.2.2.2.1 hg
  have N5 := below_gb (K.out.2.2.2.2.alloc (by omega) _) hg (by simp; omega) (by omega)
  clear K hg c1 c2 f1 f2
  have ⟨c1, c2, c7⟩ := two_facts U13
  have ⟨f1, f2, f4⟩ := two_facts U19
  have c8 := (two_facts U18).2.2
  have K := Lib.hid (And.intro U18 N5)
  clear U13 U18 U19 N5
  go_wp2_with fail
  refine (add_two _ a0 a1 _ _ _ (two_new w5 a0 a1)).mono ?_
  rintro e w6 ⟨rfl, U20, hg⟩
  have U18 := two_gn K.out.1 hg
  have N6 := below_gb (K.out.2.alloc (by omega) _) hg (by simp; omega) (by omega)
  clear K hg c1 c2 f1 f2
  rw [P.out.2.2.2.2.1, P.out.2.2.2.2.2] at U18
  have ⟨c1, c2, c9⟩ := two_facts U18
  have ⟨f1, f2, f5⟩ := two_facts U20
  clear U18 U20
  have N := Lib.hid N6
  clear N6
  go_wp2
  go_ret
  exact ⟨rfl, N.out⟩

set_option maxRecDepth 100000 in
theorem lifted (os : Os) (started : os.Started) (H : Type) (enc : TypeId × Value → H) :
    ReturnsInHanded {} Try.checked os 3 .any (Rows.fnAddIsMonoidSpec.pre6 enc Try.prog Try.f3 Rows.fnAddIsMonoidRow.domain false) (Rows.fnAddIsMonoidSpec.post enc Try.prog Try.f3 false true false false) := by
  refine returnsInHanded_of_change (C := Try.checked) own started (by kernel_rfl) Try.func3
    (ChangeSpec.witness6 (enc := enc) (C := Try.checked) false ⟨#[], #[.int .i64 0, .int .i64 0, .int .i64 0, .int .i64 0, .int .i64 0, .int .i64 0], []⟩ 8 (by kernel_rfl) (by kernel_rfl) (by kernel_rfl) (by kernel_rfl)) ?_
  intro W base args ds gs before hval0 hW hcnd _
  have hval : ∀ (j : Nat) t v, Try.f3.params[j]? = some t → args[j]? = some v → Value.okWide Try.prog W .any base t v := hval0
  have hW' := hW
  obtain ⟨p, q, hA0, hV, rfl, hfz, hnd⟩ := hW
  have hA : DataW.TrodAll enc Try.prog W 0 (fun _ => true) true Try.f3.params.toList args.toList ds p := hA0
  rw [Try.params3] at hA hval
  obtain ⟨v0, vs0, d0, ds0, p0, q0, hargs, rfl, rfl, h0, r0⟩ := trodAll_cons hA
  obtain ⟨v1, vs1, d1, ds1, p1, q1, rfl, rfl, rfl, h1, r1⟩ := trodAll_cons r0
  obtain ⟨v2, vs2, d2, ds2, p2, q2, rfl, rfl, rfl, h2, r2⟩ := trodAll_cons r1
  obtain ⟨v3, vs3, d3, ds3, p3, q3, rfl, rfl, rfl, h3, r3⟩ := trodAll_cons r2
  obtain ⟨v4, vs4, d4, ds4, p4, q4, rfl, rfl, rfl, h4, r4⟩ := trodAll_cons r3
  obtain ⟨v5, vs5, d5, ds5, p5, q5, rfl, rfl, rfl, h5, r5⟩ := trodAll_cons r4
  obtain ⟨rfl, rfl, rfl⟩ := trodAll_nil r5
  obtain rfl : args = #[v0, v1, v2, v3, v4, v5] := by cases args; simp_all
  obtain ⟨rfl, rfl⟩ := trodVars_none hV
  obtain ⟨a0, rfl, rfl, rfl, w0⟩ := open_int Try.underlying3 (hval 0 3 v0 rfl rfl) h0
  obtain ⟨a1, rfl, rfl, rfl, w1⟩ := open_int Try.underlying3 (hval 1 3 v1 rfl rfl) h1
  obtain ⟨a2, rfl, rfl, rfl, w2⟩ := open_int Try.underlying3 (hval 2 3 v2 rfl rfl) h2
  obtain ⟨a3, rfl, rfl, rfl, w3⟩ := open_int Try.underlying3 (hval 3 3 v3 rfl rfl) h3
  obtain ⟨a4, rfl, rfl, rfl, w4⟩ := open_int Try.underlying3 (hval 4 3 v4 rfl rfl) h4
  obtain ⟨a5, rfl, rfl, rfl, w5⟩ := open_int Try.underlying3 (hval 5 3 v5 rfl rfl) h5
  clear hA0 hval0
  simp only [List.append_nil] at hW'
  refine (walk a0 a1 a2 a3 a4 a5 w0 w1 w2 w3 w4 w5 W).mono fun e W' ⟨he, bel⟩ => ?_
  subst he
  exact ⟨_, rfl, _, _, _, [], _, [], hW', trodAll_mk1 (shut_bool Try.underlying4 _), (trodAll_cons_mk (shut_int Try.underlying3 w0) (trodAll_cons_mk (shut_int Try.underlying3 w1) (trodAll_cons_mk (shut_int Try.underlying3 w2) (trodAll_cons_mk (shut_int Try.underlying3 w3) (trodAll_cons_mk (shut_int Try.underlying3 w4) (trodAll_cons_mk (shut_int Try.underlying3 w5) trodAll_mk0)))))), rfl, bel.frame _, fun h => by cases h⟩

theorem over : Rows.fnAddIsMonoidRow.holds Try.pinned (OpenSpec.ofChange Rows.fnAddIsMonoidSpec) :=
  OpenClaim.holds_of_wide 3 Try.f3 rfl rfl rfl rfl rfl rfl rfl ⟨rfl, rfl, rfl, rfl, rfl⟩ rfl rfl rfl rfl rfl (by kernel_rfl) Try.func3 (by kernel_rfl)
    (of_decide_eq_true (by kernel_rfl)) (by unfold Func.isWrapper; first | (rw [if_pos (by decide +kernel)]; kernel_rfl) | (rw [if_neg (by decide +kernel)]; exact ⟨rfl, rfl⟩))
    (fun os started H enc _ => lifted os started H enc)

/-- THE STATEMENT -/
theorem proved : Rows.FnAddIsMonoidSaid :=
  over
#print axioms proved
end Go.Proofs.Ytbicjmaogbaldaa.fnAddIsMonoid
