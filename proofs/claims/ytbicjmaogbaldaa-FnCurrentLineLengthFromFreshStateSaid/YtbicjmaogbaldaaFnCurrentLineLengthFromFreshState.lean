/-
  For every buffer the law FnCurrentLineLengthFromFreshState returns true: from a fresh printer state currentLineLength returns the number of bytes after the last CR or LF and leaves the two cached fields at that line's start and at the buffer's length. No conditions.
-/
import Derived.Test.YtbicjmaogbaldaaRows
import Derived.WalkKit
import Derived.ProofKit
import Derived.OpenShut
import Derived.ShutString
import Derived.ChangeOld
import Derived.Below
import Derived.WalkSpells
import Derived.WalkLawsBesides
import Derived.LoopTactic
import Derived.RegionTactic
import Derived.ChangeAlike
import Derived.Deep.QuietTactic
import Derived.BigQuiet
import Derived.Test.YtbicjmaogbaldaaInts
namespace Go.Proofs.Ytbicjmaogbaldaa.fnCurrentLineLengthFromFreshState
open Go.ChangeShapes Go.WideShapes Go.ChangeAt Go.RowKit
open Go.ChangeMaps (open_string shut_string)
set_option linter.unusedVariables false

theorem own : ownKnob Try.prog.godebug = none := by kernel_rfl
theorem laidOut : laidOutB Try.prog = true := by kernel_rfl

/-- WHAT THE WALK IS TOLD OF A SLICE OF INTEGERS THAT CAME IN: it is nil; or it leads to a row of 'cap' cells, the numbers 'zs' (the first 'len' are its elements, the rest its spare room), each fitting its kind. -/
def IsRow (k : IntKind) (w : World) (a : Option Addr) (len cap : Nat) (zs : List Int) : Prop :=
  (a = none ∧ len = 0 ∧ cap = 0 ∧ zs = []) ∨
  ∃ x, a = some x ∧ len ≤ cap ∧ cap ≤ maxLen ∧ zs.length = cap ∧ (∀ i, i < zs.length → w.cell? (x.add i) = some (.int k (zs.getD i 0))) ∧ ∀ n ∈ zs, (Lit.int k n).wf = true

theorem row_in {k : IntKind} {w : World} {a : Option Addr} {len cap : Nat} {z : List Int} (h : IsRow k w a len cap z) : ∃ zs : List Int, zs.length = len ∧ In k w a zs ∧ zs.length ≤ maxLen := by
  rcases h with ⟨rfl, rfl, rfl, rfl⟩ | ⟨x, rfl, h1, h2, h3, h4, _⟩
  · exact ⟨[], rfl, .inl rfl, by simp⟩
  · have hl : (z.take len).length = len := by rw [List.length_take]; omega
    refine ⟨z.take len, hl, ?_, by omega⟩
    by_cases h0 : len = 0
    · subst h0; exact .inl (by simp)
    · obtain ⟨b, off, spot⟩ := x
      have hc := h4 0 (by omega)
      have hspot : spot = none := by simpa [Addr.add] using World.cell?_spot hc
      subst hspot
      refine .inr ⟨b, off, rfl, World.block_lt_of_cell? w _ hc, fun i hi => ?_⟩
      have := h4 i (by omega)
      have e : (⟨b, off, none⟩ : Addr).add i = ⟨b, off + i, none⟩ := by unfold Addr.add; split <;> simp_all
      rw [e] at this
      rw [this, nth_take z len i (by omega)]; rfl

theorem copy_info : (Try.prog.info? 5).map (fun i => (i.zero, i.size, i.bytes)) = some (some (.int .u8 0), 1, 1) := by kernel_rfl
theorem copy_any (ao : Option Addr) (cap : Nat) (zs : List Int) (w : World) (hin : In .u8 w ao zs) (hl : zs.length ≤ 1048576) :
    Calls Try.prog 17 #[.slice ao zs.length cap] w (Cloned .u8 5 w zs) := by
  have hnil := fun (w : World) => Lib.run_eql_slice_nil (P := Try.prog) w 43 5 ao zs.length cap 0 0 Try.underlying43
  rcases ao with _ | x
  · have hz : zs = [] := by
      rcases hin with h | ⟨b, off, h, _⟩
      · exact h
      · cases h
    subst hz
    clear hin hl
    simp only [List.length_nil, Option.isNone_none] at hnil
    go_enter Try.func17, Try.ntmps17
    go_wp2
    go_ret
    exact ⟨_, _, rfl, .inl rfl, Below.refl _ _⟩
  · have HI := Lib.hid hin
    clear hin
    go_enter Try.func17, Try.ntmps17
    go_wp2_with (at_make; refine wpList_make_ints _ rfl _ _ 43 rfl 5 .u8 1 Try.underlying43 copy_info zs.length rfl rfl (by omega) (by unfold maxLen; omega) ?_; intro w1 hb hgr)
    have hb1 : Below w.heap.size w w1 := (Below.refl _ w).grown hgr (Nat.le_refl _) (fun k h => by cases h)
    have HB := Lib.hid (And.intro hb hb1)
    clear hb hgr hb1
    go_loopw [4] (fun i wr => ∃ k : Nat, k ≤ zs.length ∧ i = .int .i64 k ∧ Blk wr w.heap.size 5 (ints .u8 (cpy zs k)) ∧ Below w.heap.size w wr) (fun i _ => zs.length - (intOf i).toNat)
    case atStart => exact ⟨0, Nat.zero_le _, rfl, by rw [cpy_zero]; exact HB.out.1, HB.out.2⟩
    case round =>
      obtain ⟨k, hk, rfl, hB, hbel⟩ := hrel
      rcases (show k = zs.length ∨ k < zs.length by omega) with rfl | hlt
      · rw [cpy_end] at hB
        have HF := Lib.hid (And.intro hB hbel)
        clear hB hbel
        go_wp2
        go_ret
        exact ⟨_, _, rfl, .inr ⟨_, rfl, Nat.le_refl _, HF.out.1⟩, HF.out.2⟩
      · obtain ⟨b, off, hx, hblt, hc⟩ := HI.out.at hlt
        cases hx
        have hc' := (hbel.cell (p := ⟨b, off + k, none⟩) hblt).trans hc
        have hcl := cpy_length zs k hk
        have hs := hB.int (i := k) (by omega)
        have hf := hB.free k
        have hB2 := hB.put k (nth zs k)
        rw [cpy_step zs k hlt] at hB2
        have HN := Lib.hid (And.intro hB2 (hbel.setCell (p := ⟨w.heap.size, k, none⟩) (Nat.le_refl _) (.int .u8 (nth zs k))))
        clear hB hbel hB2 hc hcl
        go_wp2
        go_roundw
        case rel => exact ⟨k + 1, by omega, by go_num, HN.out.1, HN.out.2⟩
        case measure => simp [intOf]; omega


noncomputable def prCells (v : Value) (s e : Int) : Array Value := cellsOf ((Instr.build 109 #[(3, v), (8, .int .i64 s), (9, .int .i64 e)]).run Try.prog default)
theorem build109 (ao : Option Addr) (n c : Nat) (s e : Int) (w : World) : (Instr.build 109 #[(3, .slice ao n c), (8, .int .i64 s), (9, .int .i64 e)]).run Try.prog w = .ok (.agg (prCells (.slice ao n c) s e)) w := by kernel_rfl

def isBr (c : Int) : Bool := c == 13 || c == 10
def last (zs : List Int) : Nat → Nat
  | 0 => 0
  | k + 1 => if isBr (nth zs k) then k + 1 else last zs k
theorem last_le (zs : List Int) (k : Nat) : last zs k ≤ k := by
  induction k with
  | zero => simp [last]
  | succ k ih => unfold last; split <;> omega

theorem pr15s (ao : Option Addr) (n c : Nat) (s e : Int) : (prCells (.slice ao n c) s e)[15]? = some (.slice ao n c) := by kernel_rfl
theorem pr41 (ao : Option Addr) (n c : Nat) (s e : Int) : (prCells (.slice ao n c) s e)[41]? = some (.int .i64 s) := by kernel_rfl
theorem pr42 (ao : Option Addr) (n c : Nat) (s e : Int) : (prCells (.slice ao n c) s e)[42]? = some (.int .i64 e) := by kernel_rfl
theorem set41 (ao : Option Addr) (n c : Nat) (s e x : Int) : (prCells (.slice ao n c) s e).setIfInBounds 41 (.int .i64 x) = prCells (.slice ao n c) x e := by kernel_rfl
theorem set42 (ao : Option Addr) (n c : Nat) (s e x : Int) : (prCells (.slice ao n c) s e).setIfInBounds 42 (.int .i64 x) = prCells (.slice ao n c) s x := by kernel_rfl

theorem cll_any (p : Nat) (ao : Option Addr) (cap : Nat) (zs : List Int) (w : World) (hp : Blk w p 109 (prCells (.slice ao zs.length cap) 0 0)) (hin : In .u8 w ao zs) (hl : zs.length ≤ 1048576) :
    Calls Try.prog 21 #[.pointer (some ⟨p, 0, none⟩)] w fun e w' => e = .returned (.int .i64 (zs.length - last zs zs.length)) ∧ Blk w' p 109 (prCells (.slice ao zs.length cap) (last zs zs.length) zs.length) ∧ w.grownBy w' (some p) := by
  have hlt := hp.lt
  have c15 := (hp.cell 15).trans (pr15s _ _ _ _ _)
  have c41 := (hp.cell 41).trans (pr41 _ _ _ _ _)
  have c42 := (hp.cell 42).trans (pr42 _ _ _ _ _)
  have f41 := hp.free 41
  have f42 := hp.free 42
  have HP := Lib.hid hp
  have HI := Lib.hid hin
  clear hp hin
  go_enter Try.func21, Try.ntmps21
  go_wp2
  go_loop [6, 7] (fun i _ => ∃ k : Nat, k ≤ zs.length ∧ i = .int .i64 k ∧ Hid (last zs zs.length = last zs k)) (fun i _ => (intOf i).toNat)
  case atStart => exact ⟨zs.length, Nat.le_refl _, rfl, Lib.hid rfl⟩
  case round =>
    obtain ⟨k, hk, rfl, hla⟩ := hrel
    rcases (show k = 0 ∨ 0 < k by omega) with rfl | hpos
    · have e0 : last zs zs.length = 0 := hla.out
      have E0 := Lib.hid e0
      clear e0 hla
      go_wp2
      go_ret
      refine ⟨ret_int (by rw [E0.out]; omega), ?_, gb_set (gb_refl _ _) _ _ _⟩
      have := HP.out.set 42 (.int .i64 (zs.length : Int))
      rw [set42] at this
      rw [E0.out]; exact this
    · obtain ⟨b, off, hx, hblt, hc⟩ := HI.out.at (show k - 1 < zs.length by omega)
      subst hx
      obtain ⟨j, rfl⟩ : ∃ j, k = j + 1 := ⟨k - 1, by omega⟩
      simp only [Nat.add_sub_cancel] at hc
      have hj1 : ((j + 1 : Nat) : Int) - 1 = (j : Int) := by omega
      by_cases hb : isBr (nth zs j) = true
      · have e1 : last zs zs.length = j + 1 := by rw [hla.out]; simp [last, hb]
        have E1 := Lib.hid e1
        have hb' := Lib.hid hb
        clear e1 hla hb
        have htest : (nth zs j == 13) = true ∨ ((nth zs j == 13) = false ∧ (nth zs j == 10) = true) := by
          have := hb'.out; simp only [isBr, Bool.or_eq_true] at this
          rcases Bool.eq_false_or_eq_true (nth zs j == 13) with h | h
          · exact .inl h
          · exact .inr ⟨h, by simpa [h] using this⟩
        rcases htest with h13 | ⟨h13, h10⟩
        all_goals
          go_wp2
          go_ret
          refine ⟨ret_int (by rw [E1.out]; omega), ?_, gb_set (gb_set (gb_refl _ _) _ _ _) _ _ _⟩
          have := (HP.out.set 41 (.int .i64 ((j : Int) + 1))).set 42 (.int .i64 (zs.length : Int))
          rw [set41, set42] at this
          rw [E1.out]; exact this
      · have e1 : last zs (j + 1) = last zs j := by simp [last, hb]
        have E1 := Lib.hid (hla.out.trans e1)
        have h13 : (nth zs j == 13) = false := by
          rcases Bool.eq_false_or_eq_true (nth zs j == 13) with h | h
          · exact absurd (by simp [isBr, h]) hb
          · exact h
        have h10 : (nth zs j == 10) = false := by
          rcases Bool.eq_false_or_eq_true (nth zs j == 10) with h | h
          · exact absurd (by simp [isBr, h]) hb
          · exact h
        clear e1 hla hb
        go_wp2
        go_round
        case rel => exact ⟨j, by omega, by go_num, E1⟩
        case measure => simp [intOf]

noncomputable def prZero : Array Value := cellsOf ((zeroValue 109).run Try.prog default)
theorem alloc109 (w : World) : (Instr.alloc 109 true (.tuple #[])).run Try.prog w = .ok (.pointer (some ⟨w.heap.size, 0, none⟩)) (w.alloc (.cells prZero 109)) := by kernel_rfl
theorem info109 (ao : Option Addr) (n c : Nat) (s e : Int) : (Try.prog.info? 109).map (·.size) = some (prCells (.slice ao n c) s e).size := by kernel_rfl
theorem size109 (ao : Option Addr) (n c : Nat) (s e : Int) : prZero.size = (prCells (.slice ao n c) s e).size := by kernel_rfl
theorem one109 (ao : Option Addr) (n c : Nat) (s e : Int) : (prCells (.slice ao n c) s e).all (·.oneCell') = true := by kernel_rfl

theorem zcll_any (ao : Option Addr) (cap : Nat) (zs : List Int) (w : World) (hin : In .u8 w ao zs) (hl : zs.length ≤ 1048576) :
    Calls Try.prog 18 #[.slice ao zs.length cap, .int .i64 0, .int .i64 0] w fun e w' => e = .returned (.tuple #[.int .i64 (zs.length - last zs zs.length), .int .i64 (last zs zs.length), .int .i64 zs.length]) ∧ Below w.heap.size w w' := by
  have HI := Lib.hid hin
  clear hin
  go_enter Try.func18, Try.ntmps18
  go_wp2_with (first | (refine wpList_build rfl 109 _ rfl [(3, .slice ao zs.length cap), (8, .int .i64 0), (9, .int .i64 0)] rfl (prCells (.slice ao zs.length cap) 0 0) (build109 ao zs.length cap 0 0) ?_) | (refine wpList_alloc_zero rfl 109 rfl prZero alloc109 ?_; refine wpList_store_new (w0 := w) rfl 109 (.tmp 9) (.tmp 14) rfl prZero (prCells (.slice ao zs.length cap) 0 0) (by kernel_rfl) (by kernel_rfl) (info109 ao zs.length cap 0 0) (size109 ao zs.length cap 0 0) (one109 ao zs.length cap 0 0) ?_))
  refine (cll_any w.heap.size ao cap zs _ (Blk.new _ _ _) (HI.out.alloc _) hl).mono ?_
  rintro e w1 ⟨rfl, hP, hg⟩
  have c41 := (hP.cell 41).trans (pr41 _ _ _ _ _)
  have c42 := (hP.cell 42).trans (pr42 _ _ _ _ _)
  have HN := Lib.hid (below_gb ((Below.refl _ w).alloc (Nat.le_refl _) _) hg (by simp) (Nat.le_refl _))
  clear hP hg
  go_wp2
  go_region
  go_wp2
  go_ret3
  exact ⟨rfl, HN.out.drew⟩

/-- the whole law, for a buffer that reads as zs -/
theorem main (ao : Option Addr) (cap : Nat) (zs : List Int) (w : World) (hin : In .u8 w ao zs) (hm : zs.length ≤ maxLen) :
    Calls Try.prog 7 #[.slice ao zs.length cap] w fun e w' => e = .returned (.bool true) ∧ Below w.heap.size w w' := by
  unfold maxLen at hm
  by_cases hl : zs.length ≤ 1048576
  · have HI := Lib.hid hin
    clear hin
    go_enter Try.func7, Try.ntmps7
    go_wp2_with (go_at_call 16; go_in)
    refine (copy_any ao cap zs _ HI.out hl).mono ?_
    rintro e w1 ⟨ao', cap', rfl, hcl, hbel⟩
    have HI' := Lib.hid (Cloned.in' hcl)
    have HB := Lib.hid hbel
    clear hcl hbel
    go_wp2_with fail
    go_loop [3, 4] (fun l i => ∃ k : Nat, k ≤ zs.length ∧ i = .int .i64 k ∧ l = .int .i64 (last zs k)) (fun _ i => zs.length - (intOf i).toNat)
    case atStart => exact ⟨0, Nat.zero_le _, rfl, rfl⟩
    case round =>
      obtain ⟨k, hk, rfl, rfl⟩ := hrel
      have hle := last_le zs k
      rcases (show k = zs.length ∨ k < zs.length by omega) with rfl | hlt
      · go_wp2_with fail
        refine (zcll_any ao' cap' zs _ HI'.out hl).mono ?_
        rintro e w2 ⟨rfl, hb2⟩
        have HN := Lib.hid (below_two HB.out hb2)
        clear hb2
        go_wp2
        go_ret
        exact ⟨rfl, HN.out⟩
      · obtain ⟨b, off, hx, hblt, hc⟩ := HI'.out.at hlt
        subst hx
        have hs := Lib.hid (show last zs (k + 1) = if isBr (nth zs k) then k + 1 else last zs k from rfl)
        have hbr := Lib.hid (show isBr (nth zs k) = (nth zs k == 13 || nth zs k == 10) from rfl)
        rcases Bool.eq_false_or_eq_true (nth zs k == 13) with h13 | h13 <;> rcases Bool.eq_false_or_eq_true (nth zs k == 10) with h10 | h10
        all_goals
          go_wp2
          go_round
          case rel => exact ⟨k + 1, by omega, by go_num, by rw [hs.out, hbr.out, h13, h10]; simp⟩
          case measure => simp [intOf]; omega
  · clear hin
    go_enter Try.func7, Try.ntmps7
    go_wp2
    all_goals go_ret
    all_goals exact ⟨rfl, Below.refl _ _⟩

theorem walk (a0 : Option Addr) (len0 cap0 : Nat) (z0 : List Int) (w : World) (w0 : IsRow .u8 w a0 len0 cap0 z0) :
    Calls Try.prog 7 #[.slice a0 len0 cap0] w fun e w' => e = .returned (.bool true) ∧ Below w.heap.size w w' := by
  obtain ⟨zs, hz, hin, hm⟩ := row_in w0
  subst hz
  exact main a0 cap0 zs w hin hm

set_option maxRecDepth 100000 in
theorem lifted (os : Os) (started : os.Started) (H : Type) (enc : TypeId × Value → H) :
    ReturnsInHanded {} Try.checked os 7 .any (Rows.fnCurrentLineLengthFromFreshStateSpec.pre6 enc Try.prog Try.f7 Rows.fnCurrentLineLengthFromFreshStateRow.domain false) (Rows.fnCurrentLineLengthFromFreshStateSpec.post enc Try.prog Try.f7 false true false false) := by
  refine returnsInHanded_of_change (C := Try.checked) own started (by kernel_rfl) Try.func7
    (ChangeSpec.witness6 (enc := enc) (C := Try.checked) false ⟨#[], #[.slice none 0 0], []⟩ 8 (by kernel_rfl) (by kernel_rfl) (by kernel_rfl) (by kernel_rfl)) ?_
  intro W base args ds gs before hval0 hW hcnd _
  have hval : ∀ (j : Nat) t v, Try.f7.params[j]? = some t → args[j]? = some v → Value.okWide Try.prog W .any base t v := hval0
  have hW' := hW
  obtain ⟨p, q, hA0, hV, rfl, hfz, hnd⟩ := hW
  have hA : DataW.TrodAll enc Try.prog W 0 (fun _ => true) true Try.f7.params.toList args.toList ds p := hA0
  rw [Try.params7] at hA hval
  obtain ⟨v0, vs0, d0, ds0, p0, q0, hargs, rfl, rfl, h0, r0⟩ := trodAll_cons hA
  obtain ⟨rfl, rfl, rfl⟩ := trodAll_nil r0
  obtain rfl : args = #[v0] := by cases args; simp_all
  obtain ⟨rfl, rfl⟩ := trodVars_none hV
  obtain ⟨a0, len0, cap0, rfl⟩ := okWide_slice Try.underlying43 (hval 0 43 v0 rfl rfl)
  have k0 := h0
  have lt0 : ∀ x ∈ p0, x.block < W.heap.size := by obtain ⟨m, hm⟩ := k0; exact DataW.trod_lt m _ _ _ hm
  obtain ⟨z0, w0⟩ : ∃ zs, IsRow .u8 W a0 len0 cap0 zs := by
    obtain ⟨fuel, hf⟩ := h0
    rcases open_ints Try.underlying43 Try.underlying5 (by kernel_rfl) hf with ⟨hcs, _⟩ | ⟨x, l, c, zs, hcs, _, hl, hm, hz, _, hcell, hwz⟩
    · simp [Value.cells] at hcs
      obtain ⟨rfl, rfl, rfl⟩ := hcs
      exact ⟨[], .inl ⟨rfl, rfl, rfl, rfl⟩⟩
    · simp [Value.cells] at hcs
      obtain ⟨rfl, rfl, rfl⟩ := hcs
      exact ⟨zs, .inr ⟨_, rfl, hl, hm, by simpa using hz, hcell, hwz⟩⟩
  clear hA0 hval0
  refine (walk a0 len0 cap0 z0 W w0).mono fun e W' ⟨he, bel⟩ => ?_
  subst he
  exact ⟨_, rfl, _, _, _, [], _, [], hW', trodAll_mk1 (shut_bool Try.underlying4 _), (trodAll_cons_mk (Below.trod laidOut (by kernel_rfl) (of_decide_eq_true (by kernel_rfl)) k0 bel lt0) trodAll_mk0), rfl, bel.frame _, fun h => by cases h⟩

theorem over : Rows.fnCurrentLineLengthFromFreshStateRow.holds Try.pinned (OpenSpec.ofChange Rows.fnCurrentLineLengthFromFreshStateSpec) :=
  OpenClaim.holds_of_wide 7 Try.f7 rfl rfl rfl rfl rfl rfl rfl ⟨rfl, rfl, rfl, rfl, rfl⟩ rfl rfl rfl rfl rfl (by kernel_rfl) Try.func7 (by kernel_rfl)
    (of_decide_eq_true (by kernel_rfl)) (by unfold Func.isWrapper; first | (rw [if_pos (by decide +kernel)]; kernel_rfl) | (rw [if_neg (by decide +kernel)]; exact ⟨rfl, rfl⟩))
    (fun os started H enc _ => lifted os started H enc)

/-- THE STATEMENT -/
theorem proved : Rows.FnCurrentLineLengthFromFreshStateSaid := over
#print axioms proved
end Go.Proofs.Ytbicjmaogbaldaa.fnCurrentLineLengthFromFreshState
