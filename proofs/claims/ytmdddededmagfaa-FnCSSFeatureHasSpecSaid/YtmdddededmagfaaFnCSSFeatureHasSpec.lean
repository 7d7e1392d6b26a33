/-
  For all 16-bit feature sets f and g the law FnCSSFeatureHasSpec returns true: Has(f, g) is true exactly when some bit position is set in both. No conditions.
-/
import Derived.Test.YtmdddededmagfaaRows
import Derived.WalkKit
import Derived.ProofKit
import Derived.OpenShut
import Derived.ShutString
import Derived.WalkSpells
import Derived.WalkLawsBesides
import Derived.LoopTactic
import Derived.Lib.Hide
import Derived.Laws.BitsAllLaws
namespace Go.Proofs.Ytmdddededmagfaa.fnCSSFeatureHasSpec
open Go.ChangeShapes Go.WideShapes Go.ChangeAt Go.RowKit
open Go.ChangeMaps (open_string shut_string)
set_option linter.unusedVariables false

theorem own : ownKnob Try.prog.godebug = none := by kernel_rfl

def anyB (f g : Int) : Nat → Bool
  | 0 => false
  | k + 1 => anyB f g k || (bits .and .u16 (f / 2 ^ k) 1 == 1 && bits .and .u16 (g / 2 ^ k) 1 == 1)

theorem bit_u16 (a k : Nat) (ha : a < 65536) : (bits .and .u16 ((a : Int) / 2 ^ k) 1 == 1) = a.testBit k := by
  have h : a / 2 ^ k < 65536 := Nat.lt_of_le_of_lt (Nat.div_le_self _ _) ha
  have e : ((a : Int) / 2 ^ k) = ((a / 2 ^ k : Nat) : Int) := by simp
  rw [e]
  rw [show (1 : Int) = ((1 : Nat) : Int) from rfl, u16_and_nat _ _ h (by omega)]
  rw [Nat.testBit, Nat.shiftRight_eq_div_pow, Nat.and_comm 1]
  rcases Nat.mod_two_eq_zero_or_one (a / 2 ^ k) with h1 | h1 <;> simp [Nat.and_one_is_mod, h1]

theorem anyB_iff (a b : Nat) (ha : a < 65536) (hb : b < 65536) (k : Nat) : anyB a b k = true ↔ ∃ i, i < k ∧ (a &&& b).testBit i = true := by
  induction k with
  | zero => simp [anyB]
  | succ k ih =>
    simp only [anyB, bit_u16 a k ha, bit_u16 b k hb, Bool.or_eq_true, ih, Nat.testBit_and]
    constructor
    · rintro (⟨i, hi, h⟩ | h)
      · exact ⟨i, by omega, h⟩
      · exact ⟨k, by omega, h⟩
    · rintro ⟨i, hi, h⟩
      by_cases e : i = k
      · subst e; exact .inr h
      · exact .inl ⟨i, by omega, h⟩

theorem any_end (a b : Nat) (ha : a < 65536) (hb : b < 65536) : ((bits .and .u16 (a : Int) (b : Int) != 0) == anyB a b 16) = true := by
  rw [u16_and_nat a b ha hb]
  have hlt : a &&& b < 65536 := Nat.lt_of_le_of_lt Nat.and_le_left ha
  generalize hc : a &&& b = c at *
  have hi := anyB_iff a b ha hb 16
  rw [hc] at hi
  rw [beq_iff_eq, Bool.eq_iff_iff, hi, bne_iff_ne]
  constructor
  · intro h
    have h0 : c ≠ 0 := by omega
    obtain ⟨i, hi⟩ := Nat.exists_testBit_of_ne_zero h0
    refine ⟨i, ?_, hi⟩
    apply Classical.byContradiction
    intro hn
    have := Nat.testBit_lt_two_pow (x := c) (i := i) (Nat.lt_of_lt_of_le hlt (by rw [show 65536 = 2 ^ 16 from rfl]; exact Nat.pow_le_pow_right (by omega) (by omega)))
    simp [this] at hi
  · rintro ⟨i, _, h⟩ e
    have : c = 0 := by omega
    subst this
    simp at h

theorem wf_u16 {a : Int} (h : (Lit.int .u16 a).wf = true) : ∃ n : Nat, n < 65536 ∧ a = n := by
  have := bounds_u16 h
  exact ⟨a.toNat, by omega, by omega⟩

theorem walk (a0 : Int) (a1 : Int) (w0 : (Lit.int .u16 a0).wf = true) (w1 : (Lit.int .u16 a1).wf = true) (w : World) :
    Calls Try.prog 8 #[.int .u16 a0, .int .u16 a1] w fun e w' => e = .returned (.bool true) ∧ Grown w w' := by
  obtain ⟨a, ha, rfl⟩ := wf_u16 w0
  obtain ⟨b, hb, rfl⟩ := wf_u16 w1
  clear w0 w1
  go_enter Try.func8, Try.ntmps8
  go_wp2
  go_loop [6, 7] (fun want i => ∃ k : Nat, k ≤ 16 ∧ i = .int .u64 k ∧ want = .bool (anyB a b k)) (fun _ i => 16 - (intOf i).toNat)
  case atStart => exact ⟨0, by omega, rfl, rfl⟩
  case round =>
    obtain ⟨k, hk, rfl, rfl⟩ := hrel
    have hcase : k = 16 ∨ k < 16 := by omega
    rcases hcase with rfl | hlt
    · have hend := any_end a b ha hb
      go_wp2
      go_ret
      exact ⟨rfl, Grown.refl _⟩
    · have hs := Lib.hid (show anyB a b (k + 1) = (anyB a b k || (bits .and .u16 ((a : Int) / 2 ^ k) 1 == 1 && bits .and .u16 ((b : Int) / 2 ^ k) 1 == 1)) from rfl)
      rcases Bool.eq_false_or_eq_true (bits .and .u16 ((a : Int) / 2 ^ k) 1 == 1) with h1 | h1 <;> rcases Bool.eq_false_or_eq_true (bits .and .u16 ((b : Int) / 2 ^ k) 1 == 1) with h2 | h2
      all_goals
        go_wp2
        go_round
        case rel => exact ⟨k + 1, by omega, by go_num, by rw [hs.out, h1, h2]; simp⟩
        case measure => simp [intOf]; omega

set_option maxRecDepth 100000 in
theorem lifted (os : Os) (started : os.Started) (H : Type) (enc : TypeId × Value → H) :
    ReturnsInHanded {} Try.checked os 8 .any (Rows.fnCSSFeatureHasSpecSpec.pre6 enc Try.prog Try.f8 Rows.fnCSSFeatureHasSpecRow.domain false) (Rows.fnCSSFeatureHasSpecSpec.post enc Try.prog Try.f8 false true false false) := by
  refine returnsInHanded_of_change (C := Try.checked) own started (by kernel_rfl) Try.func8
    (ChangeSpec.witness6 (enc := enc) (C := Try.checked) false ⟨#[], #[.int .u16 0, .int .u16 0], []⟩ 8 (by kernel_rfl) (by kernel_rfl) (by kernel_rfl) (by kernel_rfl)) ?_
  intro W base args ds gs before hval0 hW hcnd _
  have hval : ∀ (j : Nat) t v, Try.f8.params[j]? = some t → args[j]? = some v → Value.okWide Try.prog W .any base t v := hval0
  have hW' := hW
  obtain ⟨p, q, hA0, hV, rfl, hfz, hnd⟩ := hW
  have hA : DataW.TrodAll enc Try.prog W 0 (fun _ => true) true Try.f8.params.toList args.toList ds p := hA0
  rw [Try.params8] at hA hval
  obtain ⟨v0, vs0, d0, ds0, p0, q0, hargs, rfl, rfl, h0, r0⟩ := trodAll_cons hA
  obtain ⟨v1, vs1, d1, ds1, p1, q1, rfl, rfl, rfl, h1, r1⟩ := trodAll_cons r0
  obtain ⟨rfl, rfl, rfl⟩ := trodAll_nil r1
  obtain rfl : args = #[v0, v1] := by cases args; simp_all
  obtain ⟨rfl, rfl⟩ := trodVars_none hV
  obtain ⟨a0, rfl, rfl, rfl, w0⟩ := open_int Try.underlying33 (hval 0 33 v0 rfl rfl) h0
  obtain ⟨a1, rfl, rfl, rfl, w1⟩ := open_int Try.underlying33 (hval 1 33 v1 rfl rfl) h1
  clear hA0 hval0
  simp only [List.append_nil] at hW'
  refine (walk a0 a1 w0 w1 W).mono fun e W' ⟨he, hg⟩ => ?_
  subst he
  exact ⟨_, rfl, post_of_same (pa := []) (pv := []) hW' (fun _ _ _ => (trodAll_cons_mk (shut_bool Try.underlying4 _) trodAll_mk0)) (fun sp _ => (trodAll_cons_mk (shut_int Try.underlying33 w0) (trodAll_cons_mk (shut_int Try.underlying33 w1) trodAll_mk0))) (fun _ _ => rfl) rfl
    (hg.frame _) hg.2.1 (ok_one (by kernel_rfl) rfl (okWide_bool_mk Try.underlying4 _))⟩

theorem over : Rows.fnCSSFeatureHasSpecRow.holds Try.pinned (OpenSpec.ofChange Rows.fnCSSFeatureHasSpecSpec) :=
  OpenClaim.holds_of_wide 8 Try.f8 rfl rfl rfl rfl rfl rfl rfl ⟨rfl, rfl, rfl, rfl, rfl⟩ rfl rfl rfl rfl rfl (by kernel_rfl) Try.func8 (by kernel_rfl)
    (of_decide_eq_true (by kernel_rfl)) (by unfold Func.isWrapper; first | (rw [if_pos (by decide +kernel)]; kernel_rfl) | (rw [if_neg (by decide +kernel)]; exact ⟨rfl, rfl⟩))
    (fun os started H enc _ => lifted os started H enc)

/-- THE STATEMENT -/
theorem proved : Rows.FnCSSFeatureHasSpecSaid :=
  over
#print axioms proved
end Go.Proofs.Ytmdddededmagfaa.fnCSSFeatureHasSpec
