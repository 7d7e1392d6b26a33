/-
  FnStringLiteralPlainTextNormalisesLineBreaks: the lexer's StringLiteral on a plain text, the comparison of units. No statement of the seat is proved here.
-/
import Derived.Test.YtiaiphoeopdlaaaFmtDk
import Derived.Test.YtiaiphoeopdlaaaFmtReg
import Derived.Laws.Cover3
import Derived.Deep.RegionWith
import Derived.Deep.QuietTactic
namespace Go.Proofs.YtiaiphoeopdlaaaFmt
open Go.RowKit
set_option linter.unusedVariables false
def SomeBool (e : Ending) : Prop := ∃ b : Bool, e = .returned (.bool b)
set_option maxHeartbeats 1000000 in
theorem zb_any (a : ByteArray) (w : World) (ha : a.size ≤ maxLen) : Calls Tryf.prog 4 #[.string a] w fun e w' => SomeBool e ∧ w = w' := by
  unfold maxLen at ha
  by_cases h1 : a.size ≤ 1048576
  · go_enter Tryf.func4, Tryf.ntmps4
    go_wp2_with fail
    go_ret
    exact ⟨⟨true, rfl⟩, rfl⟩
  · go_enter Tryf.func4, Tryf.ntmps4
    go_wp2_with fail
    go_ret
    exact ⟨⟨false, rfl⟩, rfl⟩

/-- the cells of a fresh lexer over the encoded text T -/
noncomputable def lxCells (T : ByteArray) : Array Value := cellsOf ((Instr.build 72 #[(31, .int .u8 2), (32, .int .u8 5), (13, .string T), (16, .int .i64 1)]).run Tryf.prog default)
theorem lx_run (T : ByteArray) (w : World) : (Instr.build 72 #[(31, .int .u8 2), (32, .int .u8 5), (13, .string T), (16, .int .i64 1)]).run Tryf.prog w = .ok (.agg (lxCells T)) w := by kernel_rfl
theorem lx_size (T : ByteArray) : (lxCells T).size = 85 := by kernel_rfl
theorem lx_37 (T : ByteArray) : (lxCells T)[37]? = some (.slice none 0 0) := by kernel_rfl
theorem lx_38 (T : ByteArray) : (lxCells T)[38]? = some (.string T) := by kernel_rfl
theorem lx_50 (T : ByteArray) : (lxCells T)[50]? = some (.int .i64 1) := by kernel_rfl

set_option maxHeartbeats 1000000 in
theorem new_any (T : ByteArray) (w : World) : Calls Tryf.prog 5 #[.string T] w fun e w' => e = .returned (.pointer (some ⟨w.heap.size, 0, none⟩)) ∧ w' = w.alloc (.cells (lxCells T) 72) := by
  go_enter Tryf.func5, Tryf.ntmps5
  go_wp2_with (refine wpList_build rfl 72 _ rfl [(31, .int .u8 2), (32, .int .u8 5), (13, .string T), (16, .int .i64 1)] rfl (lxCells T) (lx_run T) ?_)
  go_ret
  exact ⟨rfl, rfl⟩

/-- behind StringLiteral: the decoded units, kept in the lexer -/
def SOk (T : ByteArray) (p B : Nat) (w : World) (v : Value) (w' : World) : Prop := Own .u16 24 w' B v (nrm T.data.toList) ∧ v ≠ .slice none 0 0 ∧ Blk w' p 72 ((lxCells T).setIfInBounds 37 v) ∧ Below p w w'
def S1 (T : ByteArray) (p : Nat) (w : World) (e : Ending) (w' : World) : Prop := ∃ v, e = .returned v ∧ SOk T p w.heap.size w v w'

set_option maxRecDepth 100000 in
set_option maxHeartbeats 2000000 in
theorem sl1_any (p : Nat) (T : ByteArray) (w : World) (hb : Blk w p 72 (lxCells T)) (hp1 : 1 < p) (hz : T.size ≤ 65536) (hasc : ∀ j, j < T.size → byteAt T j < 128 ∧ byteAt T j ≠ 92) (ht : Lib.Utf8Tabs 0 1 w) :
    Calls Tryf.prog 6 #[.pointer (some ⟨p, 0, none⟩)] w fun e w' => S1 T p w e w' := by
  have HD := Lib.hid (de_ok p 1 T true w.drew hz hasc ht)
  have c37 := (hb.cell 37).trans (lx_37 T)
  have c38 := (hb.drew.cell 38).trans (lx_38 T)
  have c50 := (hb.drew.cell 50).trans (lx_50 T)
  have hlt := hb.lt
  have HB := Lib.hid hb
  clear hb hasc ht
  have hnil : (binOp .eql 23 (.slice none 0 0) (.slice none 0 0)).run Tryf.prog w = .ok (.bool true) w := by kernel_rfl
  go_enter Tryf.func6, Tryf.ntmps6
  go_upto_region 2 with fail
  go_cut [3, 4, 5] (fun a b c wx => b = .bool true ∧ Own .u16 24 wx w.heap.size a (nrm T.data.toList) ∧ a ≠ .slice none 0 0 ∧ Below w.heap.size w wx)
  case first =>
    go_region_with (go_at_call 8; refine HD.out.mono ?_; rintro e w1 ⟨v, rfl, h1, h2, h3⟩; have H1 : Hid (Own .u16 24 w1 w.heap.size v (nrm T.data.toList) ∧ v ≠ .slice none 0 0 ∧ Below w.heap.size w w1) := Lib.hid ⟨h1, h2, ((Below.refl _ w).drew).trans h3⟩; clear h1 h2 h3)
    all_goals
      go_wp2_with fail
      go_meet
      exact ⟨rfl, H1.out⟩
  case rest =>
    obtain ⟨v, rfl⟩ : ∃ v, v = u3 := ⟨_, rfl⟩
    obtain ⟨rfl, h1, h2, h3⟩ := hcut
    have hb1 := HB.out.kept h3
    have d37 := (hb1.cell 37).trans (lx_37 T)
    have f37 := hb1.free 37
    have H1 : Hid (SOk T p w.heap.size w v (wc.setCell ⟨p, 37, none⟩ v)) := Lib.hid (by
      refine ⟨h1.gb (gb_set (gb_refl _ _) 37 none v) ?_, h2, hb1.set 37 v, (h3.mono (Nat.le_of_lt hlt)).setCell (p := ⟨p, 37, none⟩) (Nat.le_refl _) v⟩
      cases e : v.ownBlock with
      | none => exact .inl rfl
      | some g =>
        right
        intro c
        cases c
        have := (h1.lt _ e).1
        omega)
    obtain ⟨ao, cap, hv, _⟩ := h1.form
    subst hv
    clear h1 h2 h3 hb1
    go_wp2_with fail
    go_ret
    exact ⟨_, rfl, H1.out⟩

set_option maxHeartbeats 1000000 in
theorem sl2_any (p : Nat) (T : ByteArray) (B : Nat) (v : Value) (w0 w : World) (h : SOk T p B w0 v w) :
    Calls Tryf.prog 6 #[.pointer (some ⟨p, 0, none⟩)] w fun e w' => e = .returned v ∧ w' = w := by
  obtain ⟨h1, h2, h3, h4⟩ := h
  have c37 : w.cell? ⟨p, 37, none⟩ = some v := (h3.cell 37).trans (by simp [lx_size])
  obtain ⟨x, n, cap, rfl⟩ : ∃ x n cap, v = .slice (some x) n cap := by
    rcases h1.2 with ⟨e, _⟩ | ⟨g, cap, cur, e, _⟩
    · exact absurd e h2
    · exact ⟨_, _, _, e⟩
  clear h1 h2 h3 h4
  have hnil : (binOp .eql 23 (.slice (some x) n cap) (.slice none 0 0)).run Tryf.prog w = .ok (.bool false) w := by simp only [binOp]; simp [run_equal_slice_nil w 23 24 (some x) n cap Tryf.underlying23]
  go_enter Tryf.func6, Tryf.ntmps6
  go_wp2_with fail
  go_ret
  exact ⟨rfl, rfl⟩

set_option maxHeartbeats 1000000 in
theorem eq_any (ao bo : Option Addr) (n c1 c2 : Nat) (zs : List Int) (w : World) (ha : In .u16 w ao zs) (hb : In .u16 w bo zs) (hn : zs.length = n) (hm : n ≤ 65536) :
    Calls Tryf.prog 7 #[.slice ao n c1, .slice bo n c2] w fun e w' => e = .returned (.bool true) ∧ ∃ m, w' = w.drewN m := by
  go_enter Tryf.func7, Tryf.ntmps7
  go_wp2_with fail
  go_loopg [5] n (fun k a wr => ∃ i m : Nat, a = .int .i64 (i : Int) ∧ i ≤ n ∧ n - i ≤ k ∧ wr = w.drewN m)
  case atStart => exact ⟨0, 0, rfl, by omega, by omega, rfl⟩
  case round =>
    obtain ⟨i, m, rfl, hi, hk, rfl⟩ := hrel
    rcases (show i = n ∨ i < n by omega) with rfl | hlt
    · go_wp2_with fail
      go_ret
      exact ⟨rfl, m, rfl⟩
    · obtain ⟨b1, o1, rfl, _, e1⟩ := ha.at (i := i) (by omega)
      obtain ⟨b2, o2, rfl, _, e2⟩ := hb.at (i := i) (by omega)
      obtain ⟨z, hz⟩ : ∃ z, nth zs i = z := ⟨_, rfl⟩
      rw [hz] at e1 e2
      have g1 : (w.drewN m).drew.cell? ⟨b1, o1 + i, none⟩ = some (.int .u16 z) := e1
      have g2 : (w.drewN m).drew.cell? ⟨b2, o2 + i, none⟩ = some (.int .u16 z) := e2
      have g3 : (w.drewN m).cell? ⟨b1, o1 + i, none⟩ = some (.int .u16 z) := e1
      have g4 : (w.drewN m).cell? ⟨b2, o2 + i, none⟩ = some (.int .u16 z) := e2
      go_wp2_with fail
      go_quiet (fail)
      go_wp2_with fail
      go_roundg (n - (i + 1))
      case measure => omega
      case rel => exact ⟨i + 1, _, by go_num, hlt, Nat.le_refl _, rfl⟩
end Go.Proofs.YtiaiphoeopdlaaaFmt
