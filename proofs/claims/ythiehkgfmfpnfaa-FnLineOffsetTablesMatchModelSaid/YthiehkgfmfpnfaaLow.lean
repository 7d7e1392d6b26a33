/-
  What the law of the line offset tables calls beside GenerateLineOffsetTables: the units of a rune, the end of a line, the three looks into a table, the bound on sizes. No statement of the seat is proved here.
-/
import Derived.Test.YthiehkgfmfpnfaaRows
import Derived.Test.YthiehkgfmfpnfaaGlot
namespace Go.Proofs.Ythiehkgfmfpnfaa
open Go.RowKit
set_option linter.unusedVariables false
theorem units_any (s : ByteArray) (i : Nat) (w : World) : Calls Try.prog 7 #[.int .i32 (cpt s i : Nat)] w fun e w' => e = .returned (.int .i64 (un s i : Nat)) ∧ w = w' := by
  rcases (show cpt s i ≤ 65535 ∧ un s i = 1 ∨ 65535 < cpt s i ∧ un s i = 2 by unfold un; by_cases h : cpt s i ≤ 65535 <;> simp [h]; omega) with ⟨h, hu⟩ | ⟨h, hu⟩
  all_goals
    rw [hu]
    clear hu
    generalize cpt s i = cp at *
    go_enter Try.func7, Try.ntmps7
    go_wp2
    go_ret
    exact ⟨rfl, rfl⟩
theorem isterm_any (s : ByteArray) (i : Nat) (w : World) (hi : i < s.size) (hz : s.size ≤ 1048576) : Calls Try.prog 8 #[.string s, .int .i64 i, .int .i32 (cpt s i : Nat)] w fun e w' => e = .returned (.bool (tm s i)) ∧ w = w' := by
  rcases sw_cases s i with ⟨htm, hcs⟩ | ⟨htm, hcs⟩
  · rw [htm]
    clear htm
    generalize cpt s i = cp at *
    rcases hcs with rfl | rfl | rfl | ⟨rfl, hn⟩ | ⟨rfl, h1, hn⟩
    · go_enter Try.func8, Try.ntmps8
      go_wp2
      go_ret
      exact ⟨rfl, rfl⟩
    · go_enter Try.func8, Try.ntmps8
      go_wp2
      go_ret
      exact ⟨rfl, rfl⟩
    · go_enter Try.func8, Try.ntmps8
      go_wp2
      go_ret
      exact ⟨rfl, rfl⟩
    · have hd : decide ((i : Int) + 1 < (s.size : Int)) = false := by simp; omega
      go_enter Try.func8, Try.ntmps8
      go_wp2
      go_ret
      exact ⟨rfl, rfl⟩
    · obtain ⟨n1, hn1, hb, hq⟩ : ∃ n1 : Nat, ((i : Int) + 1) = (n1 : Int) ∧ ∃ hb : n1 < s.size, (((s[n1]'hb).toNat : Int) == 10) = false := ⟨i + 1, by omega, h1, by simpa using (by omega : ¬ ((s[i + 1]'h1).toNat : Int) = 10)⟩
      clear hn h1
      go_enter Try.func8, Try.ntmps8
      go_wp2
      go_ret
      exact ⟨rfl, rfl⟩
  · rw [htm]
    clear htm
    generalize cpt s i = cp at *
    rcases hcs with ⟨rfl, hun, h1, hn⟩ | ⟨h1, h2, h3, h4, hle⟩
    · obtain ⟨n1, hn1, hb, hq⟩ : ∃ n1 : Nat, ((i : Int) + 1) = (n1 : Int) ∧ ∃ hb : n1 < s.size, (((s[n1]'hb).toNat : Int) == 10) = true := ⟨i + 1, by omega, h1, by rw [hn]; rfl⟩
      clear hn h1 hun
      go_enter Try.func8, Try.ntmps8
      go_wp2
      go_ret
      exact ⟨rfl, rfl⟩
    · have q1 : ((cp : Int) == 13) = false := beq_eq_false_iff_ne.2 (by omega)
      have q2 : ((cp : Int) == 10) = false := beq_eq_false_iff_ne.2 (by omega)
      have q3 : ((cp : Int) == 8232) = false := beq_eq_false_iff_ne.2 (by omega)
      have q4 : ((cp : Int) == 8233) = false := beq_eq_false_iff_ne.2 (by omega)
      clear h1 h2 h3 h4 hle
      go_enter Try.func8, Try.ntmps8
      go_wp2
      go_ret
      exact ⟨rfl, rfl⟩
theorem OwnB.form {w : World} {B : Nat} {v : Value} {ts : List Tb} (h : OwnB w B v ts) (hn : ts ≠ []) : ∃ g cap, v = .slice (some ⟨g, 0, none⟩) ts.length cap ∧ g < w.heap.size ∧ ∀ l, (hl : l < ts.length) → ∀ j, j < 3 → w.cell? ⟨g, l * 3 + j, none⟩ = (ts[l]'hl).cells[j]? := by
  obtain ⟨h1, h2⟩ := h
  rcases h2 with ⟨rfl, h0⟩ | ⟨g, cap, cur, rfl, hB, hh, hc, hm, hs, ht⟩
  · exact absurd (List.eq_nil_of_length_eq_zero h0) hn
  · refine ⟨g, cap, rfl, blk_lt hh, fun l hl j hj => ?_⟩
    rw [blk_cell hh, ← tbRow_at ts l hl j hj, ← ht, List.getElem?_take, if_pos (by omega)]
    simp
theorem getters (w : World) (g n cap l : Nat) (t : Tb) (hl : l < n) (hn : n ≤ 2097152) (c0 : w.cell? ⟨g, l * 3 + 0, none⟩ = t.cells[0]?) (c1 : w.cell? ⟨g, l * 3 + 1, none⟩ = t.cells[1]?) (c2 : w.cell? ⟨g, l * 3 + 2, none⟩ = t.cells[2]?) :
    Calls Try.prog 9 #[.slice (some ⟨g, 0, none⟩) n cap, .int .i64 l] w (fun e w' => e = .returned (.int .i32 t.st) ∧ w = w') ∧ Calls Try.prog 10 #[.slice (some ⟨g, 0, none⟩) n cap, .int .i64 l] w (fun e w' => e = .returned t.v ∧ w = w')
    ∧ Calls Try.prog 11 #[.slice (some ⟨g, 0, none⟩) n cap, .int .i64 l] w (fun e w' => e = .returned (.int .i32 t.f) ∧ w = w') := by
  obtain ⟨ao, nn, cc, f, st⟩ := t
  simp only [Tb.cells, Tb.v, List.getElem?_cons_zero, List.getElem?_cons_succ, Nat.add_zero] at c0 c1 c2 ⊢
  refine ⟨?_, ?_, ?_⟩
  · go_enter Try.func9, Try.ntmps9
    go_wp2
    go_ret
    exact ⟨rfl, rfl⟩
  · go_enter Try.func10, Try.ntmps10
    go_wp2
    go_ret
    exact ⟨rfl, rfl⟩
  · go_enter Try.func11, Try.ntmps11
    go_wp2
    go_ret
    exact ⟨rfl, rfl⟩
theorem bytes_yes (s : ByteArray) (n : Int) (w : World) (h : s.size ≤ 1048576) : Calls Try.prog 4 #[.string s, .int .i32 n] w fun e w' => e = .returned (.bool true) ∧ w = w' := by
  go_enter Try.func4, Try.ntmps4
  go_wp2
  go_ret
  exact ⟨rfl, rfl⟩
theorem bytes_no (s : ByteArray) (n : Int) (w : World) (h : 1048576 < s.size) (hm : s.size ≤ maxLen) : Calls Try.prog 4 #[.string s, .int .i32 n] w fun e w' => e = .returned (.bool false) ∧ w = w' := by
  unfold maxLen at hm
  go_enter Try.func4, Try.ntmps4
  go_wp2
  go_ret
  exact ⟨rfl, rfl⟩
end Go.Proofs.Ythiehkgfmfpnfaa
