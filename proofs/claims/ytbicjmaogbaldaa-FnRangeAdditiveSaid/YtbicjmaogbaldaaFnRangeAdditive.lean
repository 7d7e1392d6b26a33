/-
  For every text and every a, m, b with a <= m <= b within the text the law FnRangeAdditive returns true: the ranges of the two parts add up to the range of the whole (and it returns true outside those bounds). No conditions.
-/
import Derived.Test.YtbicjmaogbaldaaRows
import Derived.WalkKit
import Derived.ProofKit
import Derived.OpenShut
import Derived.Below
import Derived.ChangeOld
import Derived.ShutString
import Derived.WalkSpells
import Derived.WalkLawsBesides
import Derived.RegionTactic
import Derived.ChangeAlike
import Derived.Deep.RegionWith
import Derived.Laws.StructEq
import Derived.Laws.BitsAllLaws
import Derived.Test.YtbicjmaogbaldaaBase
namespace Go.Proofs.Ytbicjmaogbaldaa.fnRangeAdditive
open Go.ChangeShapes Go.WideShapes Go.ChangeAt Go.RowKit
open Go.ChangeMaps (open_string shut_string)
set_option linter.unusedVariables false

theorem own : ownKnob Try.prog.godebug = none := by kernel_rfl

noncomputable def srcCells (s : ByteArray) : Array Value := cellsOf ((Instr.build 58 #[(2, .string s)]).run Try.prog default)
theorem build58 (s : ByteArray) (w : World) : (Instr.build 58 #[(2, .string s)]).run Try.prog w = .ok (.agg (srcCells s)) w := by kernel_rfl
noncomputable def lexCells (s : ByteArray) (a b : Int) : Array Value := cellsOf ((Instr.build 85 #[(5, .agg (srcCells s)), (19, .int .i64 a), (20, .int .i64 b)]).run Try.prog default)
theorem build85 (s : ByteArray) (a b : Int) (w : World) : (Instr.build 85 #[(5, .agg (srcCells s)), (19, .int .i64 a), (20, .int .i64 b)]).run Try.prog w = .ok (.agg (lexCells s a b)) w := by kernel_rfl

def IsLex (w : World) (s : ByteArray) (a b : Int) (e : Ending) (w' : World) : Prop := ∃ p, e = .returned (.pointer (some ⟨p, 0, none⟩)) ∧ Blk w' p 85 (lexCells s a b) ∧ Below w.heap.size w w'
theorem new_any (s : ByteArray) (a b : Int) (w : World) : Calls Try.prog 11 #[.string s, .int .i64 a, .int .i64 b] w (IsLex w s a b) := by
  go_enter Try.func11, Try.ntmps11
  go_wp2_with (first | (refine wpList_build rfl 58 _ rfl [(2, .string s)] rfl (srcCells s) (build58 s) ?_) | (refine wpList_build rfl 85 _ rfl [(5, .agg (srcCells s)), (19, .int .i64 a), (20, .int .i64 b)] rfl (lexCells s a b) (build85 s a b) ?_))
  go_ret
  exact ⟨_, rfl, Blk.new _ _ _, (Below.refl _ _).alloc (Nat.le_refl _) _⟩

theorem lex53 (s : ByteArray) (x y : Int) : (lexCells s x y)[53]? = some (.int .i64 x) := by kernel_rfl
theorem lex54 (s : ByteArray) (x y : Int) : (lexCells s x y)[54]? = some (.int .i64 y) := by kernel_rfl

theorem range_any (b : Nat) (s : ByteArray) (x y : Int) (w : World) (hb : Blk w b 85 (lexCells s x y)) (h0 : 0 ≤ x) (h1 : x ≤ y) (h2 : y ≤ 1048576) :
    Calls Try.prog 13 #[.pointer (some ⟨b, 0, none⟩)] w fun e w' => e = .returned (.agg #[.int .i32 x, .int .i32 (y - x)]) ∧ Below w.heap.size w w' := by
  have hlt := blk_lt hb
  have c53 := (blk_cell hb 53).trans (lex53 s x y)
  have c54 := (blk_cell hb 54).trans (lex54 s x y)
  clear hb
  go_enter Try.func13, Try.ntmps13
  go_wp2
  go_region
  go_wp2
  exact bodyPost_ret (v := .agg #[.int .i32 x, .int .i32 (y - x)]) (by simp [results, Try.results13, go_sem]) rfl ⟨rfl, ((Below.refl _ _).alloc (Nat.le_refl _) _).drew⟩

theorem walk (a0 : ByteArray) (a1 : Int) (a2 : Int) (a3 : Int) (w0 : a0.size ≤ maxLen) (w1 : (Lit.int .i64 a1).wf = true) (w2 : (Lit.int .i64 a2).wf = true) (w3 : (Lit.int .i64 a3).wf = true) (w : World) :
    Calls Try.prog 5 #[.string a0, .int .i64 a1, .int .i64 a2, .int .i64 a3] w fun e w' => e = .returned (.bool true) ∧ Below w.heap.size w w' := by
  unfold maxLen at w0
  by_cases h0 : 1048576 < a0.size
  · go_enter Try.func5, Try.ntmps5
    go_wp2
    all_goals go_ret
    all_goals exact ⟨rfl, Below.refl _ _⟩
  by_cases h1 : a1 < 0
  · go_enter Try.func5, Try.ntmps5
    go_wp2
    go_ret
    exact ⟨rfl, Below.refl _ _⟩
  by_cases h2 : a2 < a1
  · go_enter Try.func5, Try.ntmps5
    go_wp2
    go_ret
    exact ⟨rfl, Below.refl _ _⟩
  by_cases h3 : a3 < a2
  · go_enter Try.func5, Try.ntmps5
    go_wp2
    go_ret
    exact ⟨rfl, Below.refl _ _⟩
  by_cases h4 : (a0.size : Int) < a3
  · go_enter Try.func5, Try.ntmps5
    go_wp2
    go_ret
    exact ⟨rfl, Below.refl _ _⟩
  go_enter Try.func5, Try.ntmps5
  go_wp2_with (go_at_call 12; go_in)
  refine (new_any a0 a1 a2 _).mono ?_
  rintro e x1 ⟨p1, rfl, L1, B1⟩
  go_wp2_with fail
  refine (range_any p1 a0 a1 a2 _ L1 (by omega) (by omega) (by omega)).mono ?_
  rintro e x2 ⟨rfl, B2⟩
  have N2 := below_two B1 B2
  clear L1 B1 B2
  have n2 := N2.size
  go_wp2_with fail
  refine (new_any a0 a2 a3 _).mono ?_
  rintro e x3 ⟨p3, rfl, L3, B3⟩
  have R1 := (Blk.new x2 39 #[.int .i32 a1, .int .i32 (a2 - a1)]).kept B3
  have N3 := below_two N2 (below_new _ B3)
  have r1 := R1.lt
  have K := Lib.hid (And.intro R1 N3)
  clear R1 N2 N3 B3
  go_wp2_with fail
  refine (range_any p3 a0 a2 a3 _ L3 (by omega) (by omega) (by omega)).mono ?_
  rintro e x4 ⟨rfl, B4⟩
  have R1 := K.out.1.kept B4
  have N4 := below_two K.out.2 B4
  have r2 := R1.lt
  have K := Lib.hid (And.intro R1 N4)
  clear L3 B4 R1 N4
  go_wp2_with fail
  refine (new_any a0 a1 a3 _).mono ?_
  rintro e x5 ⟨p5, rfl, L5, B5⟩
  have R2 := (Blk.new x4 39 #[.int .i32 a2, .int .i32 (a3 - a2)]).kept B5
  have R1 := (K.out.1.alloc _).kept B5
  have N5 := below_two K.out.2 (below_new _ B5)
  have K := Lib.hid (And.intro R1 (And.intro R2 N5))
  clear R1 R2 N5 B5
  go_wp2_with fail
  refine (range_any p5 a0 a1 a3 _ L5 (by omega) (by omega) (by omega)).mono ?_
  rintro e x6 ⟨rfl, B6⟩
  have ⟨c1, c2, c3⟩ := (K.out.1.kept B6).two
  have ⟨d1, d2, d3⟩ := (K.out.2.1.kept B6).two
  have N6 := Lib.hid (below_two K.out.2.2 B6)
  have n6 := N6.out.size
  clear L5 B6 K
  have q1 : a1 + (a2 - a1) = a2 := by omega
  have q2 : a2 - a1 + (a3 - a2) = a3 - a1 := by omega
  have q3 : a2 + (a3 - a2) = a3 := by omega
  have q4 : a1 + (a3 - a1) = a3 := by omega
  go_wp2
  go_ret
  exact ⟨rfl, N6.out.alloc (by omega) _⟩

set_option maxRecDepth 100000 in
theorem lifted (os : Os) (started : os.Started) (H : Type) (enc : TypeId × Value → H) :
    ReturnsInHanded {} Try.checked os 5 .any (Rows.fnRangeAdditiveSpec.pre6 enc Try.prog Try.f5 Rows.fnRangeAdditiveRow.domain false) (Rows.fnRangeAdditiveSpec.post enc Try.prog Try.f5 false true false false) := by
  refine returnsInHanded_of_change (C := Try.checked) own started (by kernel_rfl) Try.func5
    (ChangeSpec.witness6 (enc := enc) (C := Try.checked) false ⟨#[], #[.string ByteArray.empty, .int .i64 0, .int .i64 0, .int .i64 0], []⟩ 8 (by kernel_rfl) (by kernel_rfl) (by kernel_rfl) (by kernel_rfl)) ?_
  intro W base args ds gs before hval0 hW hcnd _
  have hval : ∀ (j : Nat) t v, Try.f5.params[j]? = some t → args[j]? = some v → Value.okWide Try.prog W .any base t v := hval0
  have hW' := hW
  obtain ⟨p, q, hA0, hV, rfl, hfz, hnd⟩ := hW
  have hA : DataW.TrodAll enc Try.prog W 0 (fun _ => true) true Try.f5.params.toList args.toList ds p := hA0
  rw [Try.params5] at hA hval
  obtain ⟨v0, vs0, d0, ds0, p0, q0, hargs, rfl, rfl, h0, r0⟩ := trodAll_cons hA
  obtain ⟨v1, vs1, d1, ds1, p1, q1, rfl, rfl, rfl, h1, r1⟩ := trodAll_cons r0
  obtain ⟨v2, vs2, d2, ds2, p2, q2, rfl, rfl, rfl, h2, r2⟩ := trodAll_cons r1
  obtain ⟨v3, vs3, d3, ds3, p3, q3, rfl, rfl, rfl, h3, r3⟩ := trodAll_cons r2
  obtain ⟨rfl, rfl, rfl⟩ := trodAll_nil r3
  obtain rfl : args = #[v0, v1, v2, v3] := by cases args; simp_all
  obtain ⟨rfl, rfl⟩ := trodVars_none hV
  obtain ⟨a0, rfl, rfl, rfl, w0⟩ := open_string Try.underlying9 (hval 0 9 v0 rfl rfl) h0
  obtain ⟨a1, rfl, rfl, rfl, w1⟩ := open_int Try.underlying3 (hval 1 3 v1 rfl rfl) h1
  obtain ⟨a2, rfl, rfl, rfl, w2⟩ := open_int Try.underlying3 (hval 2 3 v2 rfl rfl) h2
  obtain ⟨a3, rfl, rfl, rfl, w3⟩ := open_int Try.underlying3 (hval 3 3 v3 rfl rfl) h3
  clear hA0 hval0
  simp only [List.append_nil] at hW'
  refine (walk a0 a1 a2 a3 w0 w1 w2 w3 W).mono fun e W' ⟨he, bel⟩ => ?_
  subst he
  exact ⟨_, rfl, _, _, _, [], _, [], hW', trodAll_mk1 (shut_bool Try.underlying4 _), (trodAll_cons_mk (shut_string Try.underlying9 w0) (trodAll_cons_mk (shut_int Try.underlying3 w1) (trodAll_cons_mk (shut_int Try.underlying3 w2) (trodAll_cons_mk (shut_int Try.underlying3 w3) trodAll_mk0)))), rfl, bel.frame _, fun h => by cases h⟩

theorem over : Rows.fnRangeAdditiveRow.holds Try.pinned (OpenSpec.ofChange Rows.fnRangeAdditiveSpec) :=
  OpenClaim.holds_of_wide 5 Try.f5 rfl rfl rfl rfl rfl rfl rfl ⟨rfl, rfl, rfl, rfl, rfl⟩ rfl rfl rfl rfl rfl (by kernel_rfl) Try.func5 (by kernel_rfl)
    (of_decide_eq_true (by kernel_rfl)) (by unfold Func.isWrapper; first | (rw [if_pos (by decide +kernel)]; kernel_rfl) | (rw [if_neg (by decide +kernel)]; exact ⟨rfl, rfl⟩))
    (fun os started H enc _ => lifted os started H enc)

/-- THE STATEMENT -/
theorem proved : Rows.FnRangeAdditiveSaid :=
  over
#print axioms proved
end Go.Proofs.Ytbicjmaogbaldaa.fnRangeAdditive
