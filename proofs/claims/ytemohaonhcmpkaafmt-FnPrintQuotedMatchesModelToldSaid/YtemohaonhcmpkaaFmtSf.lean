/-
  unicode.SimpleFold at the code points that the folding of "style" asks it at. No statement of the seat is proved here.
-/
import Derived.Test.YtemohaonhcmpkaaFmtFo
import Derived.WalkKit
import Derived.ProofKit
import Derived.WalkSpells
import Derived.LoopTactic
import Derived.Deep.LoopGhost
import Derived.Deep.DeepCutAuto
import Derived.Laws.BitsLemmas
namespace Go.Proofs.YtemohaonhcmpkaaFmt
open Go.RowKit Go.Lib
set_option linter.unusedVariables false
set_option linter.unusedSimpArgs false

def fa (c : Nat) : Int := zsA.getD c 0
theorem fa_ok : (List.range 128).all (fun c => decide (0 ≤ fa c) && decide (fa c < 65536)) = true := by kernel_rfl
theorem fa_range (c : Nat) (hc : c < 128) : 0 ≤ fa c ∧ fa c < 65536 := by
  have h := List.all_eq_true.1 fa_ok c (List.mem_range.2 hc)
  simpa using h
set_option maxRecDepth 100000 in
theorem sf_asc (c : Nat) (hc : c < 128) (w : World) {R o cap : Nat} (hF : Fold w R o cap) : Calls Tryf.prog 22 #[.int .i32 (c : Int)] w fun e w' => e = .returned (.int .i32 (fa c)) ∧ w' = w := by
  have h1 := hF.a c hc
  have h2 := fa_range c hc
  rw [show zsA.getD c 0 = fa c from rfl] at h1
  generalize fa c = v at h1 h2 ⊢
  have hw : IntKind.i32.wrap v = v := by rw [IntKind.wrap_i32]; omega
  have hw2 : IntKind.i64.wrap (c : Int) = (c : Int) := by rw [IntKind.wrap_i64]; omega
  clear hF h2
  go_enter Tryf.func22, Tryf.ntmps22
  go_wp2_with fail
  go_ret
  exact ⟨rfl, rfl⟩
theorem orb (i : Nat) (x : Int × Int) (hi : i < 94) (hx : zsO[i]? = some x) (w : World) {R o cap : Nat} (hF : Fold w R o cap) : w.cell? ⟨R, o + i * 2, none⟩ = some (.int .u16 x.1) ∧ w.cell? ⟨R, o + i * 2 + 1, none⟩ = some (.int .u16 x.2) := by
  have h := hF.p i hi
  have e : zsO.getD i (0, 0) = x := by rw [List.getD_eq_getElem?_getD, hx]; rfl
  rw [e] at h
  exact h
set_option maxHeartbeats 4000000 in
set_option maxRecDepth 100000 in
theorem sf_383 (w : World) {R o cap : Nat} (hF : Fold w R o cap) (hR : R < w.heap.size) : Calls Tryf.prog 22 #[.int .i32 383] w fun e w' => e = .returned (.int .i32 83) ∧ w' = w := by
  have h0 := hF.h
  have p47 := (orb 47 (966, 981) (by omega) (by kernel_rfl) w hF).1
  have p23 := (orb 23 (837, 921) (by omega) (by kernel_rfl) w hF).1
  have p11 := (orb 11 (452, 453) (by omega) (by kernel_rfl) w hF).1
  have p5 := (orb 5 (197, 229) (by omega) (by kernel_rfl) w hF).1
  have p8 := (orb 8 (304, 304) (by omega) (by kernel_rfl) w hF).1
  have p10 := (orb 10 (383, 83) (by omega) (by kernel_rfl) w hF).1
  have q10 := (orb 10 (383, 83) (by omega) (by kernel_rfl) w hF).2
  have p9 := (orb 9 (305, 305) (by omega) (by kernel_rfl) w hF).1
  clear hF
  simp only [Nat.reduceMul, Nat.add_assoc] at p47 p23 p11 p5 p8 p10 q10 p9
  go_enter Tryf.func22, Tryf.ntmps22
  go_wp2_with fail
  go_loopg [3, 4] 7 (fun k x y wr => wr = w ∧ ((x = .int .i64 0 ∧ y = .int .i64 94 ∧ 7 ≤ k) ∨ (x = .int .i64 0 ∧ y = .int .i64 47 ∧ 6 ≤ k) ∨ (x = .int .i64 0 ∧ y = .int .i64 23 ∧ 5 ≤ k) ∨ (x = .int .i64 0 ∧ y = .int .i64 11 ∧ 4 ≤ k) ∨ (x = .int .i64 6 ∧ y = .int .i64 11 ∧ 3 ≤ k) ∨ (x = .int .i64 9 ∧ y = .int .i64 11 ∧ 2 ≤ k) ∨ (x = .int .i64 9 ∧ y = .int .i64 10 ∧ 1 ≤ k) ∨ (x = .int .i64 10 ∧ y = .int .i64 10)))
  case atStart => exact ⟨rfl, .inl ⟨rfl, rfl, by omega⟩⟩
  case round =>
    obtain ⟨hw, hrel⟩ := hrel
    obtain rfl := hw.symm
    rcases hrel with ⟨rfl, rfl, hk⟩ | ⟨rfl, rfl, hk⟩ | ⟨rfl, rfl, hk⟩ | ⟨rfl, rfl, hk⟩ | ⟨rfl, rfl, hk⟩ | ⟨rfl, rfl, hk⟩ | ⟨rfl, rfl, hk⟩ | ⟨rfl, rfl⟩
    · go_wp2_with fail
      go_roundg (gk - 1)
      case measure => omega
      case rel => exact ⟨rfl, .inr (.inl ⟨rfl, rfl, by omega⟩)⟩
    · go_wp2_with fail
      go_roundg (gk - 1)
      case measure => omega
      case rel => exact ⟨rfl, .inr (.inr (.inl ⟨rfl, rfl, by omega⟩))⟩
    · go_wp2_with fail
      go_roundg (gk - 1)
      case measure => omega
      case rel => exact ⟨rfl, .inr (.inr (.inr (.inl ⟨rfl, rfl, by omega⟩)))⟩
    · go_wp2_with fail
      go_roundg (gk - 1)
      case measure => omega
      case rel => exact ⟨rfl, .inr (.inr (.inr (.inr (.inl ⟨rfl, rfl, by omega⟩))))⟩
    · go_wp2_with fail
      go_roundg (gk - 1)
      case measure => omega
      case rel => exact ⟨rfl, .inr (.inr (.inr (.inr (.inr (.inl ⟨rfl, rfl, by omega⟩)))))⟩
    · go_wp2_with fail
      go_roundg (gk - 1)
      case measure => omega
      case rel => exact ⟨rfl, .inr (.inr (.inr (.inr (.inr (.inr (.inl ⟨rfl, rfl, by omega⟩))))))⟩
    · go_wp2_with fail
      go_roundg (gk - 1)
      case measure => omega
      case rel => exact ⟨rfl, .inr (.inr (.inr (.inr (.inr (.inr (.inr (⟨rfl, rfl⟩)))))))⟩
    · go_wp2_with fail
      go_ret
      exact ⟨rfl, rfl⟩
end Go.Proofs.YtemohaonhcmpkaaFmt
