/-
  The reader and the pieces. No statement of the seat is proved here.
-/
import Derived.Test.YtfbeeekakfllpaaDoorSx
namespace Go.Proofs.YtfbeeekakfllpaaDoor
open Go.RowKit
set_option linter.unusedVariables false
set_option linter.unusedSimpArgs false
def CodeAt (w : World) (ao : Option Addr) (n : Nat) : Prop := ∀ i, i < n → ∃ b off z, ao = some ⟨b, off, none⟩ ∧ w.cell? ⟨b, off + i, none⟩ = some (.int .u8 z) ∧ 0 ≤ z ∧ z < 256
theorem gb_drewN (w : World) (m : Nat) {r : Option Nat} : w.grownBy (w.drewN m) r := ⟨rfl, rfl, rfl, Nat.le_refl _, fun _ _ _ => rfl⟩
def IsNext (R : Nat) (ao : Option Addr) (n cap i : Nat) (w : World) (e : Ending) (w' : World) : Prop :=
  ∃ (z : Int) (i' : Nat), e = .returned (.int .u8 z) ∧ 0 ≤ z ∧ z < 256 ∧ i ≤ i' ∧ i' ≤ n ∧ (i < n → i' = i + 1) ∧ i' ≤ i + 1 ∧ Blk w' R 41 #[.slice ao n cap, .int .i64 i'] ∧ w.grownBy w' (some R)
set_option maxRecDepth 100000 in
theorem next_any (R : Nat) (ao : Option Addr) (n cap i : Nat) (w : World) (hb : Blk w R 41 #[.slice ao n cap, .int .i64 i]) (hi : i ≤ n) (hn : n ≤ 1048576) (hc : CodeAt w ao n) : Calls Tryd.prog 6 #[.pointer (some ⟨R, 0, none⟩)] w (IsNext R ao n cap i w) := by
  have c0 := hb.cell 0
  have c1 := hb.cell 1
  have f1 := hb.free 1
  have hl := hb.lt
  have HB := Lib.hid hb
  simp at c0 c1
  clear hb
  rcases (show i = n ∨ i < n by omega) with rfl | hlt
  · go_enter Tryd.func6, Tryd.ntmps6
    go_wp2
    go_quiet (fail)
    go_wp2
    go_ret
    exact ⟨0, i, rfl, by omega, by omega, by omega, by omega, fun h => by omega, by omega, HB.out, gb_drewN _ _⟩
  · obtain ⟨b, off, z, rfl, hz, hz0, hz1⟩ := hc i hlt
    have HC := Lib.hid hc
    clear hc
    go_enter Tryd.func6, Tryd.ntmps6
    go_wp2
    go_quiet (fail)
    go_wp2
    go_quiet (fail)
    go_wp2
    go_ret
    refine ⟨z, i + 1, rfl, hz0, hz1, by omega, by omega, fun h => rfl, by omega, ?_, ?_⟩
    · exact Blk.set (show Blk (World.drewN _ _) R 41 _ from HB.out) 1 (.int .i64 ((i : Int) + 1))
    · exact gb_set (gb_drewN _ _) _ _ _
set_option maxRecDepth 100000 in
theorem more_any (R : Nat) (ao : Option Addr) (n cap i : Nat) (w : World) (hb : Blk w R 41 #[.slice ao n cap, .int .i64 i]) : Calls Tryd.prog 15 #[.pointer (some ⟨R, 0, none⟩)] w fun e w' => e = .returned (.bool (decide (i < n))) ∧ w.grownBy w' none := by
  have c0 := hb.cell 0
  have c1 := hb.cell 1
  have hl := hb.lt
  simp at c0 c1
  clear hb
  go_enter Tryd.func15, Tryd.ntmps15
  go_wp2
  go_quiet (fail)
  go_wp2
  go_ret
  exact ⟨by simp, gb_drewN _ _⟩
set_option maxRecDepth 100000 in
theorem piece_any (z : Int) (h0 : 0 ≤ z) (h1 : z < 256) (w : World) : Calls Tryd.prog 8 #[.int .u8 z] w fun e w' => ∃ s : ByteArray, e = .returned (.string s) ∧ s.size ≤ 4 ∧ 1 ≤ s.size ∧ w.grownBy w' none := by
  obtain ⟨r, hr⟩ : ∃ r, z.tmod 14 = r := ⟨_, rfl⟩
  have hr0 : 0 ≤ r ∧ r < 14 := by rw [← hr, Int.tmod_eq_emod_of_nonneg h0]; omega
  have hc : r = 0 ∨ r = 1 ∨ r = 2 ∨ r = 3 ∨ r = 4 ∨ r = 5 ∨ r = 6 ∨ r = 7 ∨ r = 8 ∨ r = 9 ∨ r = 10 ∨ r = 11 ∨ r = 12 ∨ r = 13 := by omega
  clear hr0
  rcases hc with rfl | rfl | rfl | rfl | rfl | rfl | rfl | rfl | rfl | rfl | rfl | rfl | rfl | rfl
  all_goals
    go_enter Tryd.func8, Tryd.ntmps8
    go_wp2
    go_ret
    exact ⟨_, rfl, by decide, by decide, gb_refl _ _⟩
/-- the names, as bytes -/
def nms : List ByteArray := [⟨#[]⟩, ⟨#[97]⟩, ⟨#[97, 98]⟩, ⟨#[36, 120]⟩, ⟨#[195, 169, 116]⟩, ⟨#[113, 34]⟩, ⟨#[98, 92]⟩]
set_option maxRecDepth 100000 in
theorem name_any (z : Int) (h0 : 0 ≤ z) (h1 : z < 256) (w : World) : Calls Tryd.prog 16 #[.int .u8 z] w fun e w' => ∃ s : ByteArray, e = .returned (.string s) ∧ s ∈ nms ∧ w.grownBy w' none := by
  obtain ⟨r, hr⟩ : ∃ r, z.tmod 8 = r := ⟨_, rfl⟩
  have hr0 : 0 ≤ r ∧ r < 8 := by rw [← hr, Int.tmod_eq_emod_of_nonneg h0]; omega
  have hc : r = 0 ∨ r = 1 ∨ r = 2 ∨ r = 3 ∨ r = 4 ∨ r = 5 ∨ r = 6 ∨ r = 7 := by omega
  clear hr0
  rcases hc with rfl | rfl | rfl | rfl | rfl | rfl | rfl | rfl
  all_goals
    go_enter Tryd.func16, Tryd.ntmps16
    go_wp2
    go_ret
    exact ⟨_, rfl, by simp [nms], gb_refl _ _⟩
end Go.Proofs.YtfbeeekakfllpaaDoor
