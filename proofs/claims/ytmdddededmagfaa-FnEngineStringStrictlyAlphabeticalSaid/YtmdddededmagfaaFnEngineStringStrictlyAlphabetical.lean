/-
  For all engines a < b among the known ones the law FnEngineStringStrictlyAlphabetical returns true: both names are nonempty and the name of a sorts strictly before that of b (and it returns true outside that range). No conditions.
-/
import Derived.Test.YtmdddededmagfaaRows
import Derived.WalkKit
import Derived.ProofKit
import Derived.OpenShut
import Derived.ShutString
import Derived.WalkSpells
import Derived.WalkLawsBesides
namespace Go.Proofs.Ytmdddededmagfaa.fnEngineStringStrictlyAlphabetical
open Go.ChangeShapes Go.WideShapes Go.ChangeAt Go.RowKit
open Go.ChangeMaps (open_string shut_string)
set_option linter.unusedVariables false

theorem own : ownKnob Try.prog.godebug = none := by kernel_rfl

def engS (c : Int) : ByteArray := match c with
  | 0 => ⟨#[99, 104, 114, 111, 109, 101]⟩
  | 1 => ⟨#[100, 101, 110, 111]⟩
  | 2 => ⟨#[101, 100, 103, 101]⟩
  | 3 => ⟨#[101, 115]⟩
  | 4 => ⟨#[102, 105, 114, 101, 102, 111, 120]⟩
  | 5 => ⟨#[104, 101, 114, 109, 101, 115]⟩
  | 6 => ⟨#[105, 101]⟩
  | 7 => ⟨#[105, 111, 115]⟩
  | 8 => ⟨#[110, 111, 100, 101]⟩
  | 9 => ⟨#[111, 112, 101, 114, 97]⟩
  | 10 => ⟨#[114, 104, 105, 110, 111]⟩
  | 11 => ⟨#[115, 97, 102, 97, 114, 105]⟩
  | _ => ⟨#[]⟩

theorem eng_any (c : Int) (w : World) (h0 : 0 ≤ c) (h1 : c ≤ 11) : Calls Try.prog 16 #[.int .u8 c] w fun e w' => e = .returned (.string (engS c)) ∧ w = w' := by
  have h : c = 0 ∨ c = 1 ∨ c = 2 ∨ c = 3 ∨ c = 4 ∨ c = 5 ∨ c = 6 ∨ c = 7 ∨ c = 8 ∨ c = 9 ∨ c = 10 ∨ c = 11 := by omega
  clear h0 h1
  rcases h with rfl | rfl | rfl | rfl | rfl | rfl | rfl | rfl | rfl | rfl | rfl | rfl
  all_goals
    go_enter Try.func16, Try.ntmps16
    go_wp2
    go_ret
    exact ⟨rfl, rfl⟩

theorem eng_plain : ∀ b : Nat, b < 12 → ∀ a : Nat, a < b → ((engS a).toList == []) = false ∧ Op.bytesLess (engS a).toList (engS b).toList = true := by decide +kernel

theorem walk (a0 : Int) (a1 : Int) (w0 : (Lit.int .u8 a0).wf = true) (w1 : (Lit.int .u8 a1).wf = true) (w : World) :
    Calls Try.prog 7 #[.int .u8 a0, .int .u8 a1] w fun e w' => e = .returned (.bool true) ∧ Grown w w' := by
  by_cases h1 : a1 ≤ a0
  · go_enter Try.func7, Try.ntmps7
    go_wp2
    go_ret
    exact ⟨rfl, Grown.refl _⟩
  by_cases h2 : 11 < a1
  · go_enter Try.func7, Try.ntmps7
    go_wp2
    go_ret
    exact ⟨rfl, Grown.refl _⟩
  have b0 := bounds_u8 w0
  obtain ⟨a, rfl⟩ := Int.eq_ofNat_of_zero_le (show 0 ≤ a0 by omega)
  obtain ⟨b, rfl⟩ := Int.eq_ofNat_of_zero_le (show 0 ≤ a1 by omega)
  obtain ⟨p1, p2⟩ := eng_plain b (by omega) a (by omega)
  go_enter Try.func7, Try.ntmps7
  go_wp2_with ((go_at_call 16; refine (eng_any _ _ (by omega) (by omega)).mono ?_; rintro e w' ⟨rfl, rfl⟩))
  go_ret
  exact ⟨rfl, Grown.refl _⟩

set_option maxRecDepth 100000 in
theorem lifted (os : Os) (started : os.Started) (H : Type) (enc : TypeId × Value → H) :
    ReturnsInHanded {} Try.checked os 7 .any (Rows.fnEngineStringStrictlyAlphabeticalSpec.pre6 enc Try.prog Try.f7 Rows.fnEngineStringStrictlyAlphabeticalRow.domain false) (Rows.fnEngineStringStrictlyAlphabeticalSpec.post enc Try.prog Try.f7 false true false false) := by
  refine returnsInHanded_of_change (C := Try.checked) own started (by kernel_rfl) Try.func7
    (ChangeSpec.witness6 (enc := enc) (C := Try.checked) false ⟨#[], #[.int .u8 0, .int .u8 0], []⟩ 8 (by kernel_rfl) (by kernel_rfl) (by kernel_rfl) (by kernel_rfl)) ?_
  intro W base args ds gs before hval0 hW hcnd _
  have hval : ∀ (j : Nat) t v, Try.f7.params[j]? = some t → args[j]? = some v → Value.okWide Try.prog W .any base t v := hval0
  have hW' := hW
  obtain ⟨p, q, hA0, hV, rfl, hfz, hnd⟩ := hW
  have hA : DataW.TrodAll enc Try.prog W 0 (fun _ => true) true Try.f7.params.toList args.toList ds p := hA0
  rw [Try.params7] at hA hval
  obtain ⟨v0, vs0, d0, ds0, p0, q0, hargs, rfl, rfl, h0, r0⟩ := trodAll_cons hA
  obtain ⟨v1, vs1, d1, ds1, p1, q1, rfl, rfl, rfl, h1, r1⟩ := trodAll_cons r0
  obtain ⟨rfl, rfl, rfl⟩ := trodAll_nil r1
  obtain rfl : args = #[v0, v1] := by cases args; simp_all
  obtain ⟨rfl, rfl⟩ := trodVars_none hV
  obtain ⟨a0, rfl, rfl, rfl, w0⟩ := open_int Try.underlying5 (hval 0 5 v0 rfl rfl) h0
  obtain ⟨a1, rfl, rfl, rfl, w1⟩ := open_int Try.underlying5 (hval 1 5 v1 rfl rfl) h1
  clear hA0 hval0
  simp only [List.append_nil] at hW'
  refine (walk a0 a1 w0 w1 W).mono fun e W' ⟨he, hg⟩ => ?_
  subst he
  exact ⟨_, rfl, post_of_same (pa := []) (pv := []) hW' (fun _ _ _ => (trodAll_cons_mk (shut_bool Try.underlying4 _) trodAll_mk0)) (fun sp _ => (trodAll_cons_mk (shut_int Try.underlying5 w0) (trodAll_cons_mk (shut_int Try.underlying5 w1) trodAll_mk0))) (fun _ _ => rfl) rfl
    (hg.frame _) hg.2.1 (ok_one (by kernel_rfl) rfl (okWide_bool_mk Try.underlying4 _))⟩

theorem over : Rows.fnEngineStringStrictlyAlphabeticalRow.holds Try.pinned (OpenSpec.ofChange Rows.fnEngineStringStrictlyAlphabeticalSpec) :=
  OpenClaim.holds_of_wide 7 Try.f7 rfl rfl rfl rfl rfl rfl rfl ⟨rfl, rfl, rfl, rfl, rfl⟩ rfl rfl rfl rfl rfl (by kernel_rfl) Try.func7 (by kernel_rfl)
    (of_decide_eq_true (by kernel_rfl)) (by unfold Func.isWrapper; first | (rw [if_pos (by decide +kernel)]; kernel_rfl) | (rw [if_neg (by decide +kernel)]; exact ⟨rfl, rfl⟩))
    (fun os started H enc _ => lifted os started H enc)

/-- THE STATEMENT -/
theorem proved : Rows.FnEngineStringStrictlyAlphabeticalSaid :=
  over
#print axioms proved
end Go.Proofs.Ytmdddededmagfaa.fnEngineStringStrictlyAlphabetical
