/-
  strings.Builder: copyCheck, WriteString, WriteByte, WriteRune at this program. No statement of the seat is proved here.
-/
import Derived.Test.YtfbeeekakfllpaaDoorSx
import Derived.Test.YtfbeeekakfllpaaDoorShelf
import Derived.Lib.Builder
import Derived.Lib.AppendStr
import Derived.Laws.Externs
namespace Go.Proofs.YtfbeeekakfllpaaDoor
open Go.RowKit
set_option linter.unusedVariables false
set_option linter.unusedSimpArgs false
theorem size46 : ∃ j, Tryd.prog.info? 46 = some j ∧ j.size = 2 := by
  have : (Tryd.prog.info? 46).map (·.size) = some 2 := by kernel_rfl
  exact Option.map_eq_some_iff.1 this
theorem infoB : (Tryd.prog.info? 5).map (fun i => (i.zero, i.size, i.bytes)) = some (some (.int .u8 0), 1, 1) := by kernel_rfl
abbrev BAt (B b : Nat) (p : Value) (bs : List Value) (w : World) : Prop := Lib.BuilderAt 46 5 B b p bs w
abbrev IsB (B b : Nat) (bs : List Value) (w : World) : Prop := Lib.IsBuilder 46 5 B b bs w
abbrev me (b : Nat) : Value := .pointer (some ⟨b, 0, none⟩)
set_option maxRecDepth 100000 in
theorem cc_used (b : Nat) (w : World) (h0 : w.cell? ⟨b, 0, none⟩ = some (me b)) : Calls Tryd.prog 25 #[me b] w fun e w' => e = .returned (.tuple #[]) ∧ w' = w := by
  obtain ⟨j, hj, hjs⟩ := size46
  have hne := fun w => Lib.run_neq_ptr_same (P := Tryd.prog) w ⟨b, 0, none⟩ Tryd.underlying44 hj
  go_enter Tryd.func25, Tryd.ntmps25
  go_wp2
  go_end0
  exact ⟨rfl, rfl⟩
set_option maxRecDepth 100000 in
theorem cc_fresh (b : Nat) (w : World) (h0 : w.cell? ⟨b, 0, none⟩ = some (.pointer none)) (hsh : w.shape? b = some (46, 2)) (hfz : w.frozen? ⟨b, 0, none⟩ = false) :
    Calls Tryd.prog 25 #[me b] w fun e w' => e = .returned (.tuple #[]) ∧ w' = w.setCell ⟨b, 0, none⟩ (me b) := by
  obtain ⟨j, hj, hjs⟩ := size46
  have h1 := Lib.run_to_unsafe (P := Tryd.prog) w ⟨b, 0, none⟩ Tryd.underlying44 Tryd.underlying100 hj (by rw [hjs]; decide) hsh (Nat.zero_lt_succ 1)
  have h2 := Lib.run_from_unsafe (P := Tryd.prog) w ⟨b, 0, none⟩ Tryd.underlying100 Tryd.underlying44 hj hsh (by kernel_rfl)
  have hcf := fun args w => run_callFunc_extern (P := Tryd.prog) (args := args) (w := w) Tryd.func35 (by kernel_rfl) (by kernel_rfl) (by kernel_rfl) (e := Extern.AbiNoEscape.same) (by kernel_rfl)
  go_enter Tryd.func25, Tryd.ntmps25
  go_wp2
  rw [Lib.run_noEscape]
  simp only [Result.andThen]
  rw [Oper.upon_value]
  go_wp2
  go_end0
  exact ⟨rfl, rfl⟩
theorem cc_any (B b : Nat) (bs : List Value) (w : World) (h : IsB B b bs w) : Calls Tryd.prog 25 #[me b] w fun e w' => e = .returned (.tuple #[]) ∧ BAt B b (me b) bs w' ∧ Below B w w' := by
  rcases h with h | h
  · refine (cc_fresh b w h.cell0 h.shape h.frozen0).mono ?_
    rintro e w' ⟨rfl, rfl⟩
    exact ⟨rfl, h.used _, (Below.refl B w).setCell (p := ⟨b, 0, none⟩) h.1 _⟩
  · refine (cc_used b w h.cell0).mono ?_
    rintro e w' ⟨rfl, rfl⟩
    exact ⟨rfl, h, Below.refl B _⟩
theorem own_form {B : Nat} {w : World} {v : Value} {n : Nat} {xs : List Value} (h : w.ownsRow B 5 1 v n xs) : ∃ ao cap, v = .slice ao n cap := by
  rcases h.2 with ⟨hv, h0⟩ | ⟨g, cap, cur, hv, _⟩
  · exact ⟨none, 0, by rw [hv, h0]⟩
  · exact ⟨_, _, hv⟩
theorem blt {w : World} {b : Nat} {cs : Array Value} {T : TypeId} {fr : Nat × Nat} (hb : w.heap[b]? = some (.cells cs T fr)) : b < w.heap.size := by
  rcases Nat.lt_or_ge b w.heap.size with h' | h'
  · exact h'
  · simp [Array.getElem?_eq_none h'] at hb
set_option maxRecDepth 100000 in
theorem ws_any (B b : Nat) (bs : List Value) (s : ByteArray) (w : World) (h : IsB B b bs w) (hlen : bs.length + s.size ≤ 1073741824) (hBw : B ≤ w.heap.size) :
    Calls Tryd.prog 7 #[me b, .string s] w fun e w' => e = .returned (.tuple #[.int .i64 s.size, .nilIface]) ∧ BAt B b (me b) (bs ++ Lib.strCells s) w' ∧ Below B w w' := by
  obtain ⟨i0, hi, hz0, hz1, hz2⟩ := info_parts infoB
  go_enter Tryd.func7, Tryd.ntmps7
  go_wp2_with (go_at_call 25; refine (cc_any B b bs _ h).mono ?_)
  rintro e w1 ⟨rfl, h1, hb1⟩
  obtain ⟨hB, v, hbk, hown, hne⟩ := h1
  have c1 : w1.cell? ⟨b, 1, none⟩ = some v := by rw [Lib.cell_of_heap hbk]; rfl
  go_wp2_with (at_builtin; refine Lib.wpList_append_own_string _ rfl _ _ 22 9 rfl B 5 i0 Tryd.underlying22 Tryd.underlying9 hi hz0 hz1 hz2 _ _ _ rfl hown s rfl (by unfold maxLen; omega) (by omega) (by have := hb1.size; omega) ?_)
  intro v' w2 hown' hgrow _
  have hb2 : w2.heap[b]? = some (.cells #[me b, v] 46 (0, 0)) := by
    rw [hgrow.block b (blt hbk) (fun e => hne e.symm)]
    exact hbk
  have d1 : w2.cell? ⟨b, 1, none⟩ = some v := by rw [Lib.cell_of_heap hb2]; rfl
  have f1 : w2.frozen? ⟨b, 1, none⟩ = false := Lib.frozen_of_heap hb2 1
  obtain ⟨ao, cap, rfl⟩ := own_form hown'
  go_wp2
  go_ret2
  refine ⟨rfl, ?_, ?_⟩
  · exact Lib.BuilderAt.put (T := 46) (e := 5) hB hb2 (bs' := bs ++ Lib.strCells s) (by simpa [Lib.strCells_length] using hown') (by decide)
  · exact (hb1.grown hgrow (by have := hb1.size; omega) (fun k hk => (hown.lt k hk).1)).setCell (p := ⟨b, 1, none⟩) hB _
set_option maxRecDepth 100000 in
theorem wb_any (B b : Nat) (bs : List Value) (c : Int) (w : World) (h : IsB B b bs w) (hlen : bs.length + 1 ≤ 1073741824) (hBw : B ≤ w.heap.size) :
    Calls Tryd.prog 32 #[me b, .int .u8 c] w fun e w' => e = .returned .nilIface ∧ BAt B b (me b) (bs ++ [.int .u8 c]) w' ∧ Below B w w' := by
  obtain ⟨i0, hi, hz0, hz1, hz2⟩ := info_parts infoB
  go_enter Tryd.func32, Tryd.ntmps32
  go_wp2_with (go_at_call 25; refine (cc_any B b bs _ h).mono ?_)
  rintro e w1 ⟨rfl, h1, hb1⟩
  obtain ⟨hB, v, hbk, hown, hne⟩ := h1
  have c1 : w1.cell? ⟨b, 1, none⟩ = some v := by rw [Lib.cell_of_heap hbk]; rfl
  go_wp2_with (at_builtin; refine wpList_append_own _ rfl _ _ 22 rfl B 5 i0 (.int .u8 0) 1 1 Tryd.underlying22 hi hz0 hz1 hz2 rfl (by decide) _ _ _ rfl (hown.alloc _) ⟨w1.heap.size, 0, none⟩ 1 1 [.int .u8 c] rfl rfl ?c1 ?c2 ?c3 ?c4 ?c5 ?_)
  case c1 =>
    intro j u hj
    match j, hj with
    | 0, hj => simp at hj; subst hj; simp [Addr.add]
  case c2 => intro u hu; simp at hu; subst hu; rfl
  case c3 => unfold maxLen; omega
  case c4 => omega
  case c5 => have := hb1.size; simp; omega
  intro v' w2 hown' hgrow _
  have hb2 : w2.heap[b]? = some (.cells #[me b, v] 46 (0, 0)) := by
    rw [hgrow.block b (by have := blt hbk; simp; omega) (fun e => hne e.symm), Lib.alloc_old w1 _ b (blt hbk)]
    exact hbk
  have d1 : w2.cell? ⟨b, 1, none⟩ = some v := by rw [Lib.cell_of_heap hb2]; rfl
  have f1 : w2.frozen? ⟨b, 1, none⟩ = false := Lib.frozen_of_heap hb2 1
  obtain ⟨ao, cap, rfl⟩ := own_form hown'
  go_wp2
  go_ret
  refine ⟨rfl, ?_, ?_⟩
  · exact Lib.BuilderAt.put (T := 46) (e := 5) hB hb2 (bs' := bs ++ [.int .u8 c]) (by simpa using hown') (by decide)
  · exact ((hb1.alloc (by have := hb1.size; omega) _).grown hgrow (by have := hb1.size; simp; omega) (fun k hk => (hown.lt k hk).1)).setCell (p := ⟨b, 1, none⟩) hB _
end Go.Proofs.YtfbeeekakfllpaaDoor
