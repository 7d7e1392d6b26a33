/-
  For all 64-bit feature sets a, b, c the law FnHasSymmetricAndDistributive returns true: Has is symmetric, a set meets itself iff it is nonempty, nothing meets the empty set, and Has distributes over union. No conditions.
-/
import Derived.Test.YtmdddededmagfabRows
import Derived.WalkKit
import Derived.ProofKit
import Derived.OpenShut
import Derived.Below
import Derived.ChangeOld
import Derived.ShutString
import Derived.WalkSpells
import Derived.WalkLawsBesides
import Derived.Laws.BitsAllLaws
namespace Go.Proofs.Ytmdddededmagfab.fnHasSymmetricAndDistributive
open Go.ChangeShapes Go.WideShapes Go.ChangeAt Go.RowKit
open Go.ChangeMaps (open_string shut_string)
set_option linter.unusedVariables false

theorem own : ownKnob Try.prog.godebug = none := by kernel_rfl

def hasB (a b : Int) : Bool := bits .and .u64 a b != 0
theorem has_any (a b : Int) (w : World) : Calls Try.prog 10 #[.int .u64 a, .int .u64 b] w fun e w' => e = .returned (.bool (hasB a b)) ∧ w = w' := by
  go_enter Try.func10, Try.ntmps10
  go_wp2
  go_ret
  exact ⟨rfl, rfl⟩

theorem wf_u64 {a : Int} (h : (Lit.int .u64 a).wf = true) : ∃ n : Nat, n < 18446744073709551616 ∧ a = n := by
  have := bounds_u64 h
  exact ⟨a.toNat, by omega, by omega⟩

def Facts (a b c : Int) : Prop := (hasB a b == hasB b a) = true ∧ (hasB a a == (a != 0)) = true ∧ hasB a 0 = false ∧ (hasB (bits .or .u64 a c) b) = (hasB a b || hasB c b)

theorem hasB_nat (a b : Nat) (ha : a < 18446744073709551616) (hb : b < 18446744073709551616) : hasB a b = ((a &&& b) != 0) := by
  unfold hasB
  rw [u64_and_nat a b ha hb, Bool.eq_iff_iff, bne_iff_ne, bne_iff_ne]
  omega

theorem facts (a b c : Int) (w0 : (Lit.int .u64 a).wf = true) (w1 : (Lit.int .u64 b).wf = true) (w2 : (Lit.int .u64 c).wf = true) : Facts a b c := by
  obtain ⟨a, ha, rfl⟩ := wf_u64 w0
  obtain ⟨b, hb, rfl⟩ := wf_u64 w1
  obtain ⟨c, hc, rfl⟩ := wf_u64 w2
  have hor : a ||| c < 2 ^ 64 := Nat.or_lt_two_pow (by omega) (by omega)
  refine ⟨?_, ?_, ?_, ?_⟩
  · rw [hasB_nat a b ha hb, hasB_nat b a hb ha, Nat.and_comm]; simp
  · rw [hasB_nat a a ha ha, Nat.and_self, beq_iff_eq, Bool.eq_iff_iff, bne_iff_ne, bne_iff_ne]; omega
  · have := hasB_nat a 0 ha (by omega); simpa using this
  · rw [u64_or_nat a c ha hc, hasB_nat _ _ (by omega) hb, hasB_nat _ _ ha hb, hasB_nat _ _ hc hb, Nat.and_or_distrib_right, Bool.eq_iff_iff, Bool.or_eq_true]
    simp only [bne_iff_ne, ne_eq, Nat.or_eq_zero_iff]
    omega

theorem walk (a0 : Int) (a1 : Int) (a2 : Int) (w0 : (Lit.int .u64 a0).wf = true) (w1 : (Lit.int .u64 a1).wf = true) (w2 : (Lit.int .u64 a2).wf = true) (w : World) :
    Calls Try.prog 5 #[.int .u64 a0, .int .u64 a1, .int .u64 a2] w fun e w' => e = .returned (.bool true) ∧ Below w.heap.size w w' := by
  obtain ⟨h1, h2, h3, h4⟩ := facts a0 a1 a2 w0 w1 w2
  have h5 : (hasB (bits .or .u64 a0 a2) a1 == (hasB a0 a1 || hasB a2 a1)) = true := by rw [h4]; simp
  clear h4
  rcases Bool.eq_false_or_eq_true (hasB a0 a1) with g | g
  all_goals
    simp only [g, Bool.true_or, Bool.false_or] at h1 h5
    go_enter Try.func5, Try.ntmps5
    go_wp2_with (first | (go_at_call 10; refine (has_any _ _ _).mono ?_; rintro e w' ⟨rfl, rfl⟩))
    go_ret
    exact ⟨rfl, Below.refl _ _⟩

set_option maxRecDepth 100000 in
theorem lifted (os : Os) (started : os.Started) (H : Type) (enc : TypeId × Value → H) :
    ReturnsInHanded {} Try.checked os 5 .any (Rows.fnHasSymmetricAndDistributiveSpec.pre6 enc Try.prog Try.f5 Rows.fnHasSymmetricAndDistributiveRow.domain false) (Rows.fnHasSymmetricAndDistributiveSpec.post enc Try.prog Try.f5 false true false false) := by
  refine returnsInHanded_of_change (C := Try.checked) own started (by kernel_rfl) Try.func5
    (ChangeSpec.witness6 (enc := enc) (C := Try.checked) false ⟨#[], #[.int .u64 0, .int .u64 0, .int .u64 0], []⟩ 8 (by kernel_rfl) (by kernel_rfl) (by kernel_rfl) (by kernel_rfl)) ?_
  intro W base args ds gs before hval0 hW hcnd _
  have hval : ∀ (j : Nat) t v, Try.f5.params[j]? = some t → args[j]? = some v → Value.okWide Try.prog W .any base t v := hval0
  have hW' := hW
  obtain ⟨p, q, hA0, hV, rfl, hfz, hnd⟩ := hW
  have hA : DataW.TrodAll enc Try.prog W 0 (fun _ => true) true Try.f5.params.toList args.toList ds p := hA0
  rw [Try.params5] at hA hval
  obtain ⟨v0, vs0, d0, ds0, p0, q0, hargs, rfl, rfl, h0, r0⟩ := trodAll_cons hA
  obtain ⟨v1, vs1, d1, ds1, p1, q1, rfl, rfl, rfl, h1, r1⟩ := trodAll_cons r0
  obtain ⟨v2, vs2, d2, ds2, p2, q2, rfl, rfl, rfl, h2, r2⟩ := trodAll_cons r1
  obtain ⟨rfl, rfl, rfl⟩ := trodAll_nil r2
  obtain rfl : args = #[v0, v1, v2] := by cases args; simp_all
  obtain ⟨rfl, rfl⟩ := trodVars_none hV
  obtain ⟨a0, rfl, rfl, rfl, w0⟩ := open_int Try.underlying25 (hval 0 25 v0 rfl rfl) h0
  obtain ⟨a1, rfl, rfl, rfl, w1⟩ := open_int Try.underlying25 (hval 1 25 v1 rfl rfl) h1
  obtain ⟨a2, rfl, rfl, rfl, w2⟩ := open_int Try.underlying25 (hval 2 25 v2 rfl rfl) h2
  clear hA0 hval0
  simp only [List.append_nil] at hW'
  refine (walk a0 a1 a2 w0 w1 w2 W).mono fun e W' ⟨he, bel⟩ => ?_
  subst he
  exact ⟨_, rfl, _, _, _, [], _, [], hW', trodAll_mk1 (shut_bool Try.underlying4 _), (trodAll_cons_mk (shut_int Try.underlying25 w0) (trodAll_cons_mk (shut_int Try.underlying25 w1) (trodAll_cons_mk (shut_int Try.underlying25 w2) trodAll_mk0))), rfl, bel.frame _, fun h => by cases h⟩

theorem over : Rows.fnHasSymmetricAndDistributiveRow.holds Try.pinned (OpenSpec.ofChange Rows.fnHasSymmetricAndDistributiveSpec) :=
  OpenClaim.holds_of_wide 5 Try.f5 rfl rfl rfl rfl rfl rfl rfl ⟨rfl, rfl, rfl, rfl, rfl⟩ rfl rfl rfl rfl rfl (by kernel_rfl) Try.func5 (by kernel_rfl)
    (of_decide_eq_true (by kernel_rfl)) (by unfold Func.isWrapper; first | (rw [if_pos (by decide +kernel)]; kernel_rfl) | (rw [if_neg (by decide +kernel)]; exact ⟨rfl, rfl⟩))
    (fun os started H enc _ => lifted os started H enc)

/-- THE STATEMENT -/
theorem proved : Rows.FnHasSymmetricAndDistributiveSaid :=
  over
#print axioms proved
end Go.Proofs.Ytmdddededmagfab.fnHasSymmetricAndDistributive
