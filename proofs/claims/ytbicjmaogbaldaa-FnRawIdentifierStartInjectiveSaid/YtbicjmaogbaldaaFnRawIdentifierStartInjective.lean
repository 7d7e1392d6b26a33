/-
  For every text and two tokens in bounds the law FnRawIdentifierStartInjective returns true: the Starts are equal exactly when the starts are, and the same span yields the same String (and it returns true outside those bounds). No conditions.
-/
import Derived.Test.YtbicjmaogbaldaaRows
import Derived.WalkKit
import Derived.ProofKit
import Derived.OpenShut
import Derived.Below
import Derived.ChangeOld
import Derived.ShutString
import Derived.WalkSpells
import Derived.WalkLawsBesides
import Derived.RegionTactic
import Derived.ChangeAlike
import Derived.Deep.RegionWith
import Derived.Laws.StructEq
import Derived.Laws.BitsAllLaws
import Derived.Test.YtbicjmaogbaldaaBase
namespace Go.Proofs.Ytbicjmaogbaldaa.fnRawIdentifierStartInjective
open Go.ChangeShapes Go.WideShapes Go.ChangeAt Go.RowKit
open Go.ChangeMaps (open_string shut_string)
set_option linter.unusedVariables false

theorem own : ownKnob Try.prog.godebug = none := by kernel_rfl

noncomputable def srcCells (s : ByteArray) : Array Value := cellsOf ((Instr.build 58 #[(2, .string s)]).run Try.prog default)
theorem build58 (s : ByteArray) (w : World) : (Instr.build 58 #[(2, .string s)]).run Try.prog w = .ok (.agg (srcCells s)) w := by kernel_rfl
noncomputable def lexCells (s : ByteArray) (a b : Int) : Array Value := cellsOf ((Instr.build 85 #[(5, .agg (srcCells s)), (19, .int .i64 a), (20, .int .i64 b)]).run Try.prog default)
theorem build85 (s : ByteArray) (a b : Int) (w : World) : (Instr.build 85 #[(5, .agg (srcCells s)), (19, .int .i64 a), (20, .int .i64 b)]).run Try.prog w = .ok (.agg (lexCells s a b)) w := by kernel_rfl

def IsLex (w : World) (s : ByteArray) (a b : Int) (e : Ending) (w' : World) : Prop := ∃ p, e = .returned (.pointer (some ⟨p, 0, none⟩)) ∧ Blk w' p 85 (lexCells s a b) ∧ Below w.heap.size w w'
theorem new_any (s : ByteArray) (a b : Int) (w : World) : Calls Try.prog 11 #[.string s, .int .i64 a, .int .i64 b] w (IsLex w s a b) := by
  go_enter Try.func11, Try.ntmps11
  go_wp2_with (first | (refine wpList_build rfl 58 _ rfl [(2, .string s)] rfl (srcCells s) (build58 s) ?_) | (refine wpList_build rfl 85 _ rfl [(5, .agg (srcCells s)), (19, .int .i64 a), (20, .int .i64 b)] rfl (lexCells s a b) (build85 s a b) ?_))
  go_ret
  exact ⟨_, rfl, Blk.new _ _ _, (Below.refl _ _).alloc (Nat.le_refl _) _⟩

theorem lex53 (s : ByteArray) (x y : Int) : (lexCells s x y)[53]? = some (.int .i64 x) := by kernel_rfl
theorem lex54 (s : ByteArray) (x y : Int) : (lexCells s x y)[54]? = some (.int .i64 y) := by kernel_rfl

theorem lex14 (s : ByteArray) (x y : Int) : (lexCells s x y)[14]? = some (.string s) := by kernel_rfl
theorem raw_any (b : Nat) (s : ByteArray) (x y : Nat) (w : World) (hb : Blk w b 85 (lexCells s x y)) (h1 : x ≤ y) (h2 : y ≤ s.size) (_h3 : s.size ≤ 1048576) :
    Calls Try.prog 22 #[.pointer (some ⟨b, 0, none⟩)] w fun e w' => e = .returned (.string (s.extract x y)) ∧ w' = w.drew := by
  have hlt := blk_lt hb
  have c53 := (blk_cell hb 53).trans (lex53 s x y)
  have c54 := (blk_cell hb 54).trans (lex54 s x y)
  have c14 := (blk_cell hb 14).trans (lex14 s x y)
  clear hb
  go_enter Try.func22, Try.ntmps22
  go_wp2
  go_region
  go_wp2
  go_ret
  exact ⟨rfl, rfl⟩

def flip (x : Int) : Int := bits .xor .u32 4294967295 x
theorem idx_any (x : Int) (w : World) : Calls Try.prog 23 #[.int .u32 x] w fun e w' => e = .returned (.agg #[.int .u32 (flip x)]) ∧ w' = w.alloc (.cells #[.int .u32 (flip x)] 29) := by
  go_enter Try.func23, Try.ntmps23
  go_wp2
  exact bodyPost_ret (v := .agg #[.int .u32 (flip x)]) (by simp [results, Try.results23, go_sem, flip]; rfl) rfl ⟨rfl, rfl⟩

theorem rid_any (b : Nat) (s : ByteArray) (x y : Nat) (w : World) (hb : Blk w b 85 (lexCells s x y)) (h1 : x ≤ y) (h2 : y ≤ s.size) (h3 : s.size ≤ 1048576) :
    Calls Try.prog 19 #[.pointer (some ⟨b, 0, none⟩)] w fun e w' => e = .returned (.agg #[.string (s.extract x y), .int .u32 (flip x)]) ∧ w' = ((w.alloc (.cells #[.string (s.extract x y), .int .u32 (flip x)] 31)).alloc (.cells #[.int .u32 (flip x)] 29)).drew.drew := by
  have hlt := blk_lt hb
  have c53 := (blk_cell hb 53).trans (lex53 s x y)
  have hwx : IntKind.u32.wrap (x : Int) = x := by rw [IntKind.wrap_u32']; omega
  have HB := Lib.hid hb
  clear hb
  go_enter Try.func19, Try.ntmps19
  go_wp2
  go_region_with (first | (go_at_call 22; refine (raw_any b s x y _ (blk_drew (blk_alloc HB.out _)) h1 h2 h3).mono ?_; rintro e w' ⟨rfl, rfl⟩) | (go_at_call 23; refine (idx_any _ _).mono ?_; rintro e w' ⟨rfl, rfl⟩))
  all_goals go_wp2
  all_goals exact bodyPost_ret (v := .agg #[.string (s.extract x y), .int .u32 (flip x)]) (by simp [results, Try.results19, go_sem]) rfl ⟨rfl, rfl⟩

theorem zid_any (b : Nat) (s : ByteArray) (x y : Nat) (w : World) (hb : Blk w b 85 (lexCells s x y)) (h1 : x ≤ y) (h2 : y ≤ s.size) (h3 : s.size ≤ 1048576) :
    Calls Try.prog 10 #[.pointer (some ⟨b, 0, none⟩)] w fun e w' => e = .returned (.agg #[.string (s.extract x y), .int .u32 (flip x)]) ∧ Below w.heap.size w w' := by
  have HB := Lib.hid hb
  clear hb
  go_enter Try.func10, Try.ntmps10
  go_wp2_with (go_at_call 19; refine (rid_any b s x y _ (blk_alloc HB.out _) h1 h2 h3).mono ?_; rintro e w' ⟨rfl, rfl⟩)
  exact bodyPost_ret (v := .agg #[.string (s.extract x y), .int .u32 (flip x)]) (by simp [results, Try.results10, go_sem]) rfl ⟨rfl, ((((Below.refl _ _).alloc (Nat.le_refl _) _).alloc (by simp) _).alloc (by simp; omega) _).drew.drew⟩

theorem flip_inj (x y : Nat) (hx : x < 4294967296) (hy : y < 4294967296) : (flip x == flip y) = ((x : Int) == (y : Int)) := by
  unfold flip
  have e : (4294967295 : Int) = ((4294967295 : Nat) : Int) := rfl
  rw [e, u32_xor_nat _ _ (by omega) hx, u32_xor_nat _ _ (by omega) hy, Bool.eq_iff_iff, beq_iff_eq, beq_iff_eq]
  constructor
  · intro h
    have h' : 4294967295 ^^^ x = 4294967295 ^^^ y := by omega
    have h2 : 4294967295 ^^^ (4294967295 ^^^ x) = 4294967295 ^^^ (4294967295 ^^^ y) := by rw [h']
    rw [← Nat.xor_assoc, ← Nat.xor_assoc, Nat.xor_self, Nat.zero_xor, Nat.zero_xor] at h2
    omega
  · intro h
    have : x = y := by omega
    rw [this]

theorem walk (a0 : ByteArray) (a1 : Int) (a2 : Int) (a3 : Int) (a4 : Int) (w0 : a0.size ≤ maxLen) (w1 : (Lit.int .i64 a1).wf = true) (w2 : (Lit.int .i64 a2).wf = true) (w3 : (Lit.int .i64 a3).wf = true) (w4 : (Lit.int .i64 a4).wf = true) (w : World) :
    Calls Try.prog 4 #[.string a0, .int .i64 a1, .int .i64 a2, .int .i64 a3, .int .i64 a4] w fun e w' => e = .returned (.bool true) ∧ Below w.heap.size w w' := by
  unfold maxLen at w0
  by_cases h0 : 1048576 < a0.size
  · go_enter Try.func4, Try.ntmps4
    go_wp2
    all_goals go_ret
    all_goals exact ⟨rfl, Below.refl _ _⟩
  by_cases h1 : a1 < 0
  · go_enter Try.func4, Try.ntmps4
    go_wp2
    go_ret
    exact ⟨rfl, Below.refl _ _⟩
  by_cases h2 : a2 < a1
  · go_enter Try.func4, Try.ntmps4
    go_wp2
    go_ret
    exact ⟨rfl, Below.refl _ _⟩
  by_cases h3 : (a0.size : Int) < a2
  · go_enter Try.func4, Try.ntmps4
    go_wp2
    go_ret
    exact ⟨rfl, Below.refl _ _⟩
  by_cases h4 : a3 < 0
  · go_enter Try.func4, Try.ntmps4
    go_wp2
    go_ret
    exact ⟨rfl, Below.refl _ _⟩
  by_cases h5 : a4 < a3
  · go_enter Try.func4, Try.ntmps4
    go_wp2
    go_ret
    exact ⟨rfl, Below.refl _ _⟩
  by_cases h6 : (a0.size : Int) < a4
  · go_enter Try.func4, Try.ntmps4
    go_wp2
    go_ret
    exact ⟨rfl, Below.refl _ _⟩
  obtain ⟨s1, rfl⟩ := Int.eq_ofNat_of_zero_le (show 0 ≤ a1 by omega)
  obtain ⟨e1, rfl⟩ := Int.eq_ofNat_of_zero_le (show 0 ≤ a2 by omega)
  obtain ⟨s2, rfl⟩ := Int.eq_ofNat_of_zero_le (show 0 ≤ a3 by omega)
  obtain ⟨e2, rfl⟩ := Int.eq_ofNat_of_zero_le (show 0 ≤ a4 by omega)
  have FI := Lib.hid (flip_inj s1 s2 (by omega) (by omega))
  go_enter Try.func4, Try.ntmps4
  go_wp2_with (go_at_call 9; go_in)
  refine (new_any a0 s1 e1 _).mono ?_
  rintro e x1 ⟨p1, rfl, L1, B1⟩
  go_wp2_with fail
  refine (zid_any p1 a0 s1 e1 _ L1 (by omega) (by omega) (by omega)).mono ?_
  rintro e x2 ⟨rfl, B2⟩
  have N2 := below_two B1 B2
  clear L1 B1 B2
  have n2 := N2.size
  go_wp2_with fail
  refine (new_any a0 s2 e2 _).mono ?_
  rintro e x3 ⟨p3, rfl, L3, B3⟩
  have R1 := (Blk.new x2 31 #[.string (a0.extract s1 e1), .int .u32 (flip s1)]).kept B3
  have N3 := below_two N2 (below_new _ B3)
  have K := Lib.hid (And.intro R1 N3)
  clear R1 N2 N3 B3
  go_wp2_with fail
  refine (zid_any p3 a0 s2 e2 _ L3 (by omega) (by omega) (by omega)).mono ?_
  rintro e x4 ⟨rfl, B4⟩
  have ⟨c1, c2, c3⟩ := (K.out.1.kept B4).two
  have N4 := Lib.hid (below_two K.out.2 B4)
  have n4 := N4.out.size
  clear L3 B4 K
  by_cases hs : s1 = s2
  · subst hs
    have q1 : (flip s1 == flip s1) = true := by simp
    by_cases he : e1 = e2
    · subst he
      have q2 : ((e1 : Int) == (e1 : Int)) = true := by simp
      go_wp2
      go_ret
      exact ⟨rfl, N4.out.alloc (by omega) _⟩
    · have q2 : ((e1 : Int) == (e2 : Int)) = false := by simp; omega
      go_wp2
      go_ret
      exact ⟨rfl, N4.out.alloc (by omega) _⟩
  · have q0 : ((s1 : Int) == (s2 : Int)) = false := by simp; omega
    have q1 : (flip s1 == flip s2) = false := by rw [FI.out]; exact q0
    clear hs
    go_wp2
    go_ret
    exact ⟨rfl, N4.out.alloc (by omega) _⟩

set_option maxRecDepth 100000 in
theorem lifted (os : Os) (started : os.Started) (H : Type) (enc : TypeId × Value → H) :
    ReturnsInHanded {} Try.checked os 4 .any (Rows.fnRawIdentifierStartInjectiveSpec.pre6 enc Try.prog Try.f4 Rows.fnRawIdentifierStartInjectiveRow.domain false) (Rows.fnRawIdentifierStartInjectiveSpec.post enc Try.prog Try.f4 false true false false) := by
  refine returnsInHanded_of_change (C := Try.checked) own started (by kernel_rfl) Try.func4
    (ChangeSpec.witness6 (enc := enc) (C := Try.checked) false ⟨#[], #[.string ByteArray.empty, .int .i64 0, .int .i64 0, .int .i64 0, .int .i64 0], []⟩ 8 (by kernel_rfl) (by kernel_rfl) (by kernel_rfl) (by kernel_rfl)) ?_
  intro W base args ds gs before hval0 hW hcnd _
  have hval : ∀ (j : Nat) t v, Try.f4.params[j]? = some t → args[j]? = some v → Value.okWide Try.prog W .any base t v := hval0
  have hW' := hW
  obtain ⟨p, q, hA0, hV, rfl, hfz, hnd⟩ := hW
  have hA : DataW.TrodAll enc Try.prog W 0 (fun _ => true) true Try.f4.params.toList args.toList ds p := hA0
  rw [Try.params4] at hA hval
  obtain ⟨v0, vs0, d0, ds0, p0, q0, hargs, rfl, rfl, h0, r0⟩ := trodAll_cons hA
  obtain ⟨v1, vs1, d1, ds1, p1, q1, rfl, rfl, rfl, h1, r1⟩ := trodAll_cons r0
  obtain ⟨v2, vs2, d2, ds2, p2, q2, rfl, rfl, rfl, h2, r2⟩ := trodAll_cons r1
  obtain ⟨v3, vs3, d3, ds3, p3, q3, rfl, rfl, rfl, h3, r3⟩ := trodAll_cons r2
  obtain ⟨v4, vs4, d4, ds4, p4, q4, rfl, rfl, rfl, h4, r4⟩ := trodAll_cons r3
  obtain ⟨rfl, rfl, rfl⟩ := trodAll_nil r4
  obtain rfl : args = #[v0, v1, v2, v3, v4] := by cases args; simp_all
  obtain ⟨rfl, rfl⟩ := trodVars_none hV
  obtain ⟨a0, rfl, rfl, rfl, w0⟩ := open_string Try.underlying9 (hval 0 9 v0 rfl rfl) h0
  obtain ⟨a1, rfl, rfl, rfl, w1⟩ := open_int Try.underlying3 (hval 1 3 v1 rfl rfl) h1
  obtain ⟨a2, rfl, rfl, rfl, w2⟩ := open_int Try.underlying3 (hval 2 3 v2 rfl rfl) h2
  obtain ⟨a3, rfl, rfl, rfl, w3⟩ := open_int Try.underlying3 (hval 3 3 v3 rfl rfl) h3
  obtain ⟨a4, rfl, rfl, rfl, w4⟩ := open_int Try.underlying3 (hval 4 3 v4 rfl rfl) h4
  clear hA0 hval0
  simp only [List.append_nil] at hW'
  refine (walk a0 a1 a2 a3 a4 w0 w1 w2 w3 w4 W).mono fun e W' ⟨he, bel⟩ => ?_
  subst he
  exact ⟨_, rfl, _, _, _, [], _, [], hW', trodAll_mk1 (shut_bool Try.underlying4 _), (trodAll_cons_mk (shut_string Try.underlying9 w0) (trodAll_cons_mk (shut_int Try.underlying3 w1) (trodAll_cons_mk (shut_int Try.underlying3 w2) (trodAll_cons_mk (shut_int Try.underlying3 w3) (trodAll_cons_mk (shut_int Try.underlying3 w4) trodAll_mk0))))), rfl, bel.frame _, fun h => by cases h⟩

theorem over : Rows.fnRawIdentifierStartInjectiveRow.holds Try.pinned (OpenSpec.ofChange Rows.fnRawIdentifierStartInjectiveSpec) :=
  OpenClaim.holds_of_wide 4 Try.f4 rfl rfl rfl rfl rfl rfl rfl ⟨rfl, rfl, rfl, rfl, rfl⟩ rfl rfl rfl rfl rfl (by kernel_rfl) Try.func4 (by kernel_rfl)
    (of_decide_eq_true (by kernel_rfl)) (by unfold Func.isWrapper; first | (rw [if_pos (by decide +kernel)]; kernel_rfl) | (rw [if_neg (by decide +kernel)]; exact ⟨rfl, rfl⟩))
    (fun os started H enc _ => lifted os started H enc)

/-- THE STATEMENT -/
theorem proved : Rows.FnRawIdentifierStartInjectiveSaid :=
  over
#print axioms proved
end Go.Proofs.Ytbicjmaogbaldaa.fnRawIdentifierStartInjective
