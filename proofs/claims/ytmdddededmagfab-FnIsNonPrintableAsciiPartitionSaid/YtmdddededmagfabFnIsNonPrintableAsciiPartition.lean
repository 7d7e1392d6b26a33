/-
  For every rune c the law FnIsNonPrintableAsciiPartition returns true: each ASCII code point is exactly one of non-printable, whitespace or graphic; above ASCII nothing is non-printable; below zero everything is. No conditions.
-/
import Derived.Test.YtmdddededmagfabRows
import Derived.WalkKit
import Derived.ProofKit
import Derived.OpenShut
import Derived.Below
import Derived.ChangeOld
import Derived.ShutString
import Derived.WalkSpells
import Derived.WalkLawsBesides
namespace Go.Proofs.Ytmdddededmagfab.fnIsNonPrintableAsciiPartition
open Go.ChangeShapes Go.WideShapes Go.ChangeAt Go.RowKit
open Go.ChangeMaps (open_string shut_string)
set_option linter.unusedVariables false

theorem own : ownKnob Try.prog.godebug = none := by kernel_rfl

theorem ret_bool {a b : Bool} (h : a = b) : Ending.returned (.bool a) = .returned (.bool b) := by rw [h]

theorem walk (a0 : Int) (w0 : (Lit.int .i32 a0).wf = true) (w : World) :
    Calls Try.prog 4 #[.int .i32 a0] w fun e w' => e = .returned (.bool true) ∧ Below w.heap.size w w' := by
  by_cases h : a0 = 32 ∨ a0 = 9 ∨ a0 = 10 ∨ a0 = 13 ∨ a0 = 12 ∨ a0 = 11 ∨ a0 = 127
  · rcases h with rfl | rfl | rfl | rfl | rfl | rfl | rfl
    all_goals
      go_enter Try.func4, Try.ntmps4
      go_wp2
      go_ret
      exact ⟨rfl, Below.refl _ _⟩
  · have h1 : (a0 == 32) = false := by simp; omega
    have h2 : (a0 == 9) = false := by simp; omega
    have h3 : (a0 == 10) = false := by simp; omega
    have h4 : (a0 == 13) = false := by simp; omega
    have h5 : (a0 == 12) = false := by simp; omega
    have h6 : (a0 == 11) = false := by simp; omega
    have h7 : (a0 == 127) = false := by simp; omega
    rcases (show a0 < 0 ∨ (0 ≤ a0 ∧ a0 ≤ 8) ∨ (14 ≤ a0 ∧ a0 ≤ 31) ∨ (33 ≤ a0 ∧ a0 ≤ 126) ∨ 127 < a0 from by omega) with g | ⟨g, g'⟩ | ⟨g, g'⟩ | ⟨g, g'⟩ | g
    all_goals
      clear h
      go_enter Try.func4, Try.ntmps4
      go_wp2
      go_ret
      first | exact ⟨rfl, Below.refl _ _⟩ | exact ⟨ret_bool (by simp; omega), Below.refl _ _⟩

set_option maxRecDepth 100000 in
theorem lifted (os : Os) (started : os.Started) (H : Type) (enc : TypeId × Value → H) :
    ReturnsInHanded {} Try.checked os 4 .any (Rows.fnIsNonPrintableAsciiPartitionSpec.pre6 enc Try.prog Try.f4 Rows.fnIsNonPrintableAsciiPartitionRow.domain false) (Rows.fnIsNonPrintableAsciiPartitionSpec.post enc Try.prog Try.f4 false true false false) := by
  refine returnsInHanded_of_change (C := Try.checked) own started (by kernel_rfl) Try.func4
    (ChangeSpec.witness6 (enc := enc) (C := Try.checked) false ⟨#[], #[.int .i32 0], []⟩ 8 (by kernel_rfl) (by kernel_rfl) (by kernel_rfl) (by kernel_rfl)) ?_
  intro W base args ds gs before hval0 hW hcnd _
  have hval : ∀ (j : Nat) t v, Try.f4.params[j]? = some t → args[j]? = some v → Value.okWide Try.prog W .any base t v := hval0
  have hW' := hW
  obtain ⟨p, q, hA0, hV, rfl, hfz, hnd⟩ := hW
  have hA : DataW.TrodAll enc Try.prog W 0 (fun _ => true) true Try.f4.params.toList args.toList ds p := hA0
  rw [Try.params4] at hA hval
  obtain ⟨v0, vs0, d0, ds0, p0, q0, hargs, rfl, rfl, h0, r0⟩ := trodAll_cons hA
  obtain ⟨rfl, rfl, rfl⟩ := trodAll_nil r0
  obtain rfl : args = #[v0] := by cases args; simp_all
  obtain ⟨rfl, rfl⟩ := trodVars_none hV
  obtain ⟨a0, rfl, rfl, rfl, w0⟩ := open_int Try.underlying21 (hval 0 21 v0 rfl rfl) h0
  clear hA0 hval0
  simp only [List.append_nil] at hW'
  refine (walk a0 w0 W).mono fun e W' ⟨he, bel⟩ => ?_
  subst he
  exact ⟨_, rfl, _, _, _, [], _, [], hW', trodAll_mk1 (shut_bool Try.underlying4 _), (trodAll_cons_mk (shut_int Try.underlying21 w0) trodAll_mk0), rfl, bel.frame _, fun h => by cases h⟩

theorem over : Rows.fnIsNonPrintableAsciiPartitionRow.holds Try.pinned (OpenSpec.ofChange Rows.fnIsNonPrintableAsciiPartitionSpec) :=
  OpenClaim.holds_of_wide 4 Try.f4 rfl rfl rfl rfl rfl rfl rfl ⟨rfl, rfl, rfl, rfl, rfl⟩ rfl rfl rfl rfl rfl (by kernel_rfl) Try.func4 (by kernel_rfl)
    (of_decide_eq_true (by kernel_rfl)) (by unfold Func.isWrapper; first | (rw [if_pos (by decide +kernel)]; kernel_rfl) | (rw [if_neg (by decide +kernel)]; exact ⟨rfl, rfl⟩))
    (fun os started H enc _ => lifted os started H enc)

/-- THE STATEMENT -/
theorem proved : Rows.FnIsNonPrintableAsciiPartitionSaid :=
  over
#print axioms proved
end Go.Proofs.Ytmdddededmagfab.fnIsNonPrintableAsciiPartition
