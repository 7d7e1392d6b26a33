/-
  For any two strings a and b the law FnIsASCIIOnlySplitsOverConcatenation returns true: isASCIIOnly of the concatenation is the conjunction of the two. No conditions.
-/
import Derived.Test.YtmdddededmagfabRows
import Derived.WalkKit
import Derived.ProofKit
import Derived.OpenShut
import Derived.Below
import Derived.ChangeOld
import Derived.ShutString
import Derived.WalkSpells
import Derived.WalkLawsBesides
import Derived.LoopTactic
import Derived.Lib.Hide
import Derived.Laws.RangeAny
namespace Go.Proofs.Ytmdddededmagfab.fnIsASCIIOnlySplitsOverConcatenation
open Go.ChangeShapes Go.WideShapes Go.ChangeAt Go.RowKit
open Go.ChangeMaps (open_string shut_string)
set_option linter.unusedVariables false

theorem own : ownKnob Try.prog.godebug = none := by kernel_rfl

def ascB (l : List UInt8) : Bool := l.all fun b => decide (32 ≤ b.toNat) && decide (b.toNat ≤ 126)

theorem take_snoc (s : ByteArray) (k : Nat) (h : k < s.size) : s.data.toList.take (k + 1) = s.data.toList.take k ++ [s[k]] := by
  rw [List.take_succ_eq_append_getElem (by simpa using h)]; rfl

theorem asc_snoc (s : ByteArray) (k : Nat) (h : k < s.size) (h0 : ascB (s.data.toList.take k) = true) (h1 : 32 ≤ s[k].toNat) (h2 : s[k].toNat ≤ 126) : ascB (s.data.toList.take (k + 1)) = true := by
  rw [take_snoc s k h]
  simp [ascB] at h0 ⊢
  exact ⟨h0, h1, h2⟩
theorem asc_bad (s : ByteArray) (k : Nat) (h : k < s.size) (h1 : s[k].toNat < 32 ∨ 126 < s[k].toNat) : ascB s.data.toList = false := by
  unfold ascB
  rw [List.all_eq_false]
  refine ⟨s[k], ?_, ?_⟩
  · exact Array.getElem_mem_toList h
  · simp; omega

theorem width_one (s : ByteArray) (pos : Nat) (h : pos < s.size) (h1 : 32 ≤ (Utf8.decode s pos).1) (h2 : (Utf8.decode s pos).1 ≤ 126) : Utf8.decode s pos = (s[pos].toNat, 1) := by
  by_cases ha : (s[pos]'h).toNat < 128
  · exact decode_ascii s pos h ha
  · have := (decode_high s pos h (by omega)).1; omega
theorem bad_one (s : ByteArray) (pos : Nat) (h : pos < s.size) (h1 : (Utf8.decode s pos).1 < 32 ∨ 126 < (Utf8.decode s pos).1) : s[pos].toNat < 32 ∨ 126 < s[pos].toNat := by
  by_cases ha : (s[pos]'h).toNat < 128
  · rw [decode_ascii s pos h ha] at h1; exact h1
  · omega

theorem below_iter (w : World) (s : ByteArray) (pos : Nat) : Below w.heap.size w (w.iter s pos) := (Below.refl _ w).alloc (Nat.le_refl _) _
theorem below_two {w a b : World} (h : Below w.heap.size w a) (k : Below a.heap.size a b) : Below w.heap.size w b := h.trans (k.mono h.size)

theorem ret_bool {a b : Bool} (h : a = b) : Ending.returned (.bool a) = .returned (.bool b) := by rw [h]
theorem asc_any (s : ByteArray) (w : World) : Calls Try.prog 11 #[.string s] w fun e w' => e = .returned (.bool (ascB s.data.toList)) ∧ Below w.heap.size w w' := by
  go_enter Try.func11, Try.ntmps11
  go_wp2
  go_loopw [] (fun w' => ∃ pos : Nat, w' = w.iter s pos ∧ pos ≤ s.size ∧ ascB (s.data.toList.take pos) = true) (fun w' => s.size - w'.iterPos w.heap.size)
  case atStart => exact ⟨0, rfl, by omega, rfl⟩
  case round =>
    obtain ⟨pos, rfl, hle, hc⟩ := hrel
    by_cases hp : pos < s.size
    · by_cases hb : 32 ≤ (Utf8.decode s pos).1 ∧ (Utf8.decode s pos).1 ≤ 126
      · obtain ⟨hb1, hb2⟩ := hb
        have hw1 := width_one s pos hp hb1 hb2
        rw [hw1] at hb1 hb2
        have hs := asc_snoc s pos hp hc hb1 hb2
        have hnx : ∀ ty, (Instr.next (.pointer (some ⟨w.heap.size, 0, none⟩)) true ty).run Try.prog (w.iter s pos) = _ := fun ty => run_next_any w s pos ty hp
        simp only [hw1] at hnx hb1 hb2
        clear hw1 hc
        go_wp2
        go_roundw
        case rel => exact ⟨pos + 1, rfl, by omega, hs⟩
        case measure => simp; omega
      · have hbad := asc_bad s pos hp (bad_one s pos hp (by omega))
        have hnx : ∀ ty, (Instr.next (.pointer (some ⟨w.heap.size, 0, none⟩)) true ty).run Try.prog (w.iter s pos) = _ := fun ty => run_next_any w s pos ty hp
        generalize hd : (Utf8.decode s pos) = d at *
        obtain ⟨c, wd⟩ := d
        clear hd hc
        simp only at hb hnx
        by_cases g1 : 32 ≤ (c : Int) <;> by_cases g2 : (c : Int) ≤ 126 <;> try omega
        all_goals
          go_wp2
          go_ret
          exact ⟨rfl, below_iter _ _ _⟩
    · have hnx : ∀ ty, (Instr.next (.pointer (some ⟨w.heap.size, 0, none⟩)) true ty).run Try.prog (w.iter s pos) = _ := fun ty => run_next_end w s pos ty hp
      rw [List.take_of_length_le (by simpa using (by omega : s.size ≤ pos))] at hc
      have hc := Lib.hid hc
      go_wp2
      go_ret
      exact ⟨ret_bool hc.out.symm, below_iter _ _ _⟩

theorem asc_app (a b : List UInt8) : ascB (a ++ b) = (ascB a && ascB b) := by simp [ascB]

theorem walk (a0 : ByteArray) (a1 : ByteArray) (w0 : a0.size ≤ maxLen) (w1 : a1.size ≤ maxLen) (w : World) :
    Calls Try.prog 3 #[.string a0, .string a1] w fun e w' => e = .returned (.bool true) ∧ Below w.heap.size w w' := by
  unfold maxLen at w0 w1
  by_cases h0 : a0.size ≤ 524288
  · by_cases h1 : a1.size ≤ 524288
    · have happ := Lib.hid (asc_app a0.data.toList a1.data.toList)
      rcases Bool.eq_false_or_eq_true (ascB a0.data.toList) with g | g
      all_goals
        go_enter Try.func3, Try.ntmps3
        go_wp2_with (first | (go_at_call 11; refine (asc_any _ _).mono ?_; rintro e w' ⟨rfl, hg⟩) | go_in)
        go_ret
        exact ⟨ret_bool (by rw [happ.out, g]; simp), by repeat (first | assumption | refine below_two ?_ (by assumption))⟩
    · go_enter Try.func3, Try.ntmps3
      go_wp2
      all_goals go_ret
      all_goals exact ⟨rfl, Below.refl _ _⟩
  · go_enter Try.func3, Try.ntmps3
    go_wp2
    all_goals go_ret
    all_goals exact ⟨rfl, Below.refl _ _⟩

set_option maxRecDepth 100000 in
theorem lifted (os : Os) (started : os.Started) (H : Type) (enc : TypeId × Value → H) :
    ReturnsInHanded {} Try.checked os 3 .any (Rows.fnIsASCIIOnlySplitsOverConcatenationSpec.pre6 enc Try.prog Try.f3 Rows.fnIsASCIIOnlySplitsOverConcatenationRow.domain false) (Rows.fnIsASCIIOnlySplitsOverConcatenationSpec.post enc Try.prog Try.f3 false true false false) := by
  refine returnsInHanded_of_change (C := Try.checked) own started (by kernel_rfl) Try.func3
    (ChangeSpec.witness6 (enc := enc) (C := Try.checked) false ⟨#[], #[.string ByteArray.empty, .string ByteArray.empty], []⟩ 8 (by kernel_rfl) (by kernel_rfl) (by kernel_rfl) (by kernel_rfl)) ?_
  intro W base args ds gs before hval0 hW hcnd _
  have hval : ∀ (j : Nat) t v, Try.f3.params[j]? = some t → args[j]? = some v → Value.okWide Try.prog W .any base t v := hval0
  have hW' := hW
  obtain ⟨p, q, hA0, hV, rfl, hfz, hnd⟩ := hW
  have hA : DataW.TrodAll enc Try.prog W 0 (fun _ => true) true Try.f3.params.toList args.toList ds p := hA0
  rw [Try.params3] at hA hval
  obtain ⟨v0, vs0, d0, ds0, p0, q0, hargs, rfl, rfl, h0, r0⟩ := trodAll_cons hA
  obtain ⟨v1, vs1, d1, ds1, p1, q1, rfl, rfl, rfl, h1, r1⟩ := trodAll_cons r0
  obtain ⟨rfl, rfl, rfl⟩ := trodAll_nil r1
  obtain rfl : args = #[v0, v1] := by cases args; simp_all
  obtain ⟨rfl, rfl⟩ := trodVars_none hV
  obtain ⟨a0, rfl, rfl, rfl, w0⟩ := open_string Try.underlying9 (hval 0 9 v0 rfl rfl) h0
  obtain ⟨a1, rfl, rfl, rfl, w1⟩ := open_string Try.underlying9 (hval 1 9 v1 rfl rfl) h1
  clear hA0 hval0
  simp only [List.append_nil] at hW'
  refine (walk a0 a1 w0 w1 W).mono fun e W' ⟨he, bel⟩ => ?_
  subst he
  exact ⟨_, rfl, _, _, _, [], _, [], hW', trodAll_mk1 (shut_bool Try.underlying4 _), (trodAll_cons_mk (shut_string Try.underlying9 w0) (trodAll_cons_mk (shut_string Try.underlying9 w1) trodAll_mk0)), rfl, bel.frame _, fun h => by cases h⟩

theorem over : Rows.fnIsASCIIOnlySplitsOverConcatenationRow.holds Try.pinned (OpenSpec.ofChange Rows.fnIsASCIIOnlySplitsOverConcatenationSpec) :=
  OpenClaim.holds_of_wide 3 Try.f3 rfl rfl rfl rfl rfl rfl rfl ⟨rfl, rfl, rfl, rfl, rfl⟩ rfl rfl rfl rfl rfl (by kernel_rfl) Try.func3 (by kernel_rfl)
    (of_decide_eq_true (by kernel_rfl)) (by unfold Func.isWrapper; first | (rw [if_pos (by decide +kernel)]; kernel_rfl) | (rw [if_neg (by decide +kernel)]; exact ⟨rfl, rfl⟩))
    (fun os started H enc _ => lifted os started H enc)

/-- THE STATEMENT -/
theorem proved : Rows.FnIsASCIIOnlySplitsOverConcatenationSaid :=
  over
#print axioms proved
end Go.Proofs.Ytmdddededmagfab.fnIsASCIIOnlySplitsOverConcatenation
