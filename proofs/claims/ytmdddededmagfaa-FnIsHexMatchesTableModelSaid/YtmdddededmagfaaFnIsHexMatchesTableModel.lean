/-
  For every rune c the law FnIsHexMatchesTableModel returns true: isHex(c) agrees with the search in the digit tables, value and verdict. No conditions.
-/
import Derived.Test.YtmdddededmagfaaRows
import Derived.WalkKit
import Derived.ProofKit
import Derived.OpenShut
import Derived.ShutString
import Derived.WalkSpells
import Derived.WalkLawsBesides
import Derived.LoopTactic
import Derived.Lib.Hide
namespace Go.Proofs.Ytmdddededmagfaa.fnIsHexMatchesTableModel
open Go.ChangeShapes Go.WideShapes Go.ChangeAt Go.RowKit
open Go.ChangeMaps (open_string shut_string)
set_option linter.unusedVariables false

theorem own : ownKnob Try.prog.godebug = none := by kernel_rfl

def hexV (c : Int) : Int := if 48 ≤ c ∧ c ≤ 57 then c - 48 else if 97 ≤ c ∧ c ≤ 102 then c - 87 else if 65 ≤ c ∧ c ≤ 70 then c - 55 else 0
def hexB (c : Int) : Bool := decide ((48 ≤ c ∧ c ≤ 57) ∨ (97 ≤ c ∧ c ≤ 102) ∨ (65 ≤ c ∧ c ≤ 70))
theorem ret_ib {a b : Int} {x y : Bool} (h : a = b) (h2 : x = y) : Ending.returned (.tuple #[.int .i64 a, .bool x]) = .returned (.tuple #[.int .i64 b, .bool y]) := by rw [h, h2]

def lo (j : Nat) : Int := if j < 10 then 48 + j else 87 + j
def up (j : Nat) : Int := if j < 10 then 48 + j else 55 + j
def NotYet (c : Int) (k : Nat) : Prop := ∀ j, j < k → c ≠ lo j ∧ c ≠ up j
theorem notYet_succ {c : Int} {k : Nat} (h : NotYet c k) (h1 : c ≠ lo k) (h2 : c ≠ up k) : NotYet c (k + 1) := by
  intro j hj
  by_cases e : j = k
  · subst e; exact ⟨h1, h2⟩
  · exact h j (by omega)
theorem notYet_end {c : Int} (h : NotYet c 16) : hexV c = 0 ∧ hexB c = false := by
  have hh : ¬ ((48 ≤ c ∧ c ≤ 57) ∨ (97 ≤ c ∧ c ≤ 102) ∨ (65 ≤ c ∧ c ≤ 70)) := by
    intro hc
    rcases hc with hc | hc | hc
    · have := (h (c - 48).toNat (by omega)).1; unfold lo at this; omega
    · have := (h (c - 87).toNat (by omega)).1; unfold lo at this; omega
    · have := (h (c - 55).toNat (by omega)).2; unfold up at this; omega
  constructor
  · unfold hexV; rw [if_neg (by omega), if_neg (by omega), if_neg (by omega)]
  · simp [hexB]; omega


theorem tabLF : ∀ k : Fin 16, wrap32 (((⟨#[48, 49, 50, 51, 52, 53, 54, 55, 56, 57, 97, 98, 99, 100, 101, 102]⟩ : ByteArray)[k.val]'(k.isLt)).toNat : Int) = lo k.val := by decide +kernel
theorem tabL (k : Nat) (h : k < 16) : wrap32 (((⟨#[48, 49, 50, 51, 52, 53, 54, 55, 56, 57, 97, 98, 99, 100, 101, 102]⟩ : ByteArray)[k]'h).toNat : Int) = lo k := tabLF ⟨k, h⟩
theorem tabUF : ∀ k : Fin 16, wrap32 (((⟨#[48, 49, 50, 51, 52, 53, 54, 55, 56, 57, 65, 66, 67, 68, 69, 70]⟩ : ByteArray)[k.val]'(k.isLt)).toNat : Int) = up k.val := by decide +kernel
theorem tabU (k : Nat) (h : k < 16) : wrap32 (((⟨#[48, 49, 50, 51, 52, 53, 54, 55, 56, 57, 65, 66, 67, 68, 69, 70]⟩ : ByteArray)[k]'h).toNat : Int) = up k := tabUF ⟨k, h⟩
theorem hit_lo (k : Nat) (h : k < 16) : (k : Int) = hexV (lo k) ∧ true = hexB (lo k) := by
  unfold hexV hexB lo
  by_cases h1 : k < 10
  · simp only [if_pos h1]; constructor
    · rw [if_pos (by omega)]; omega
    · rw [decide_eq_true (by omega)]
  · simp only [if_neg h1]; constructor
    · rw [if_neg (by omega), if_pos (by omega)]; omega
    · rw [decide_eq_true (by omega)]
theorem hit_up (k : Nat) (h : k < 16) : (k : Int) = hexV (up k) ∧ true = hexB (up k) := by
  unfold hexV hexB up
  by_cases h1 : k < 10
  · simp only [if_pos h1]; constructor
    · rw [if_pos (by omega)]; omega
    · rw [decide_eq_true (by omega)]
  · simp only [if_neg h1]; constructor
    · rw [if_neg (by omega), if_neg (by omega), if_pos (by omega)]; omega
    · rw [decide_eq_true (by omega)]

theorem model_any (c : Int) (w : World) : Calls Try.prog 15 #[.int .i32 c] w fun e w' => e = .returned (.tuple #[.int .i64 (hexV c), .bool (hexB c)]) ∧ w = w' := by
  go_enter Try.func15, Try.ntmps15
  go_wp2
  go_loop [4] (fun i => ∃ k : Nat, k ≤ 16 ∧ i = .int .i64 k ∧ NotYet c k) (fun i => 16 - (intOf i).toNat)
  case atStart => exact ⟨0, by omega, rfl, fun j hj => by omega⟩
  case round =>
    obtain ⟨k, hk, rfl, hn⟩ := hrel
    have hcase : k = 16 ∨ k < 16 := by omega
    rcases hcase with rfl | hlt
    · have hend := Lib.hid (notYet_end hn)
      go_wp2
      go_ret2
      exact ⟨ret_ib hend.out.1.symm hend.out.2.symm, rfl⟩
    · have tl := tabL k hlt
      have tu := tabU k hlt
      by_cases h1 : c = lo k
      · have hh := Lib.hid (hit_lo k hlt)
        subst h1
        clear hn
        have g1 : (lo k == lo k) = true := by simp
        go_wp2
        go_ret2
        exact ⟨ret_ib hh.out.1 hh.out.2, rfl⟩
      · by_cases h2 : c = up k
        · have hh := Lib.hid (hit_up k hlt)
          subst h2
          clear hn
          have g1 : (up k == lo k) = false := by simpa using h1
          have g2 : (up k == up k) = true := by simp
          clear h1
          go_wp2
          go_ret2
          exact ⟨ret_ib hh.out.1 hh.out.2, rfl⟩
        · have hn' := notYet_succ hn h1 h2
          clear hn
          have g1 := beq_eq_false_iff_ne.2 h1
          have g2 := beq_eq_false_iff_ne.2 h2
          clear h1 h2
          go_wp2
          go_round
          case rel => exact ⟨k + 1, by omega, by go_num, hn'⟩
          case measure => simp [intOf]; omega

theorem hex_any (c : Int) (w : World) (w0 : (Lit.int .i32 c).wf = true) : Calls Try.prog 22 #[.int .i32 c] w fun e w' => e = .returned (.tuple #[.int .i64 (hexV c), .bool (hexB c)]) ∧ w = w' := by
  by_cases h1 : 48 ≤ c <;> by_cases h2 : c ≤ 57 <;> by_cases h3 : 97 ≤ c <;> by_cases h4 : c ≤ 102 <;> by_cases h5 : 65 ≤ c <;> by_cases h6 : c ≤ 70 <;> try omega
  all_goals
    go_enter Try.func22, Try.ntmps22
    go_wp2
    go_ret2
    exact ⟨ret_ib (by simp [hexV]; omega) (by simp [hexB]; omega), rfl⟩

theorem walk (a0 : Int) (w0 : (Lit.int .i32 a0).wf = true) (w : World) :
    Calls Try.prog 6 #[.int .i32 a0] w fun e w' => e = .returned (.bool true) ∧ Grown w w' := by
  have g1 : (hexV a0 == hexV a0) = true := by simp
  go_enter Try.func6, Try.ntmps6
  go_wp2_with (first | (go_at_call 22; refine (hex_any _ _ w0).mono ?_; rintro e w' ⟨rfl, rfl⟩) | (go_at_call 15; refine (model_any _ _).mono ?_; rintro e w' ⟨rfl, rfl⟩) | go_in)
  go_ret
  exact ⟨rfl, Grown.refl _⟩

set_option maxRecDepth 100000 in
theorem lifted (os : Os) (started : os.Started) (H : Type) (enc : TypeId × Value → H) :
    ReturnsInHanded {} Try.checked os 6 .any (Rows.fnIsHexMatchesTableModelSpec.pre6 enc Try.prog Try.f6 Rows.fnIsHexMatchesTableModelRow.domain false) (Rows.fnIsHexMatchesTableModelSpec.post enc Try.prog Try.f6 false true false false) := by
  refine returnsInHanded_of_change (C := Try.checked) own started (by kernel_rfl) Try.func6
    (ChangeSpec.witness6 (enc := enc) (C := Try.checked) false ⟨#[], #[.int .i32 0], []⟩ 8 (by kernel_rfl) (by kernel_rfl) (by kernel_rfl) (by kernel_rfl)) ?_
  intro W base args ds gs before hval0 hW hcnd _
  have hval : ∀ (j : Nat) t v, Try.f6.params[j]? = some t → args[j]? = some v → Value.okWide Try.prog W .any base t v := hval0
  have hW' := hW
  obtain ⟨p, q, hA0, hV, rfl, hfz, hnd⟩ := hW
  have hA : DataW.TrodAll enc Try.prog W 0 (fun _ => true) true Try.f6.params.toList args.toList ds p := hA0
  rw [Try.params6] at hA hval
  obtain ⟨v0, vs0, d0, ds0, p0, q0, hargs, rfl, rfl, h0, r0⟩ := trodAll_cons hA
  obtain ⟨rfl, rfl, rfl⟩ := trodAll_nil r0
  obtain rfl : args = #[v0] := by cases args; simp_all
  obtain ⟨rfl, rfl⟩ := trodVars_none hV
  obtain ⟨a0, rfl, rfl, rfl, w0⟩ := open_int Try.underlying21 (hval 0 21 v0 rfl rfl) h0
  clear hA0 hval0
  simp only [List.append_nil] at hW'
  refine (walk a0 w0 W).mono fun e W' ⟨he, hg⟩ => ?_
  subst he
  exact ⟨_, rfl, post_of_same (pa := []) (pv := []) hW' (fun _ _ _ => (trodAll_cons_mk (shut_bool Try.underlying4 _) trodAll_mk0)) (fun sp _ => (trodAll_cons_mk (shut_int Try.underlying21 w0) trodAll_mk0)) (fun _ _ => rfl) rfl
    (hg.frame _) hg.2.1 (ok_one (by kernel_rfl) rfl (okWide_bool_mk Try.underlying4 _))⟩

theorem over : Rows.fnIsHexMatchesTableModelRow.holds Try.pinned (OpenSpec.ofChange Rows.fnIsHexMatchesTableModelSpec) :=
  OpenClaim.holds_of_wide 6 Try.f6 rfl rfl rfl rfl rfl rfl rfl ⟨rfl, rfl, rfl, rfl, rfl⟩ rfl rfl rfl rfl rfl (by kernel_rfl) Try.func6 (by kernel_rfl)
    (of_decide_eq_true (by kernel_rfl)) (by unfold Func.isWrapper; first | (rw [if_pos (by decide +kernel)]; kernel_rfl) | (rw [if_neg (by decide +kernel)]; exact ⟨rfl, rfl⟩))
    (fun os started H enc _ => lifted os started H enc)

/-- THE STATEMENT -/
theorem proved : Rows.FnIsHexMatchesTableModelSaid :=
  over
#print axioms proved
end Go.Proofs.Ytmdddededmagfaa.fnIsHexMatchesTableModel
