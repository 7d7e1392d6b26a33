/-
  Small facts for the walks of next. No statement of the seat is proved here.
-/
import Derived.Test.YtlbpplkanogkgaaDoorCssWsn
namespace Go.Proofs.YtlbpplkanogkgaaDoor
open Go.RowKit
set_option linter.unusedVariables false
theorem ext_list (s : ByteArray) (a b : Nat) : (s.extract a b).toList = (s.data.toList.take b).drop a := by
  rw [show (s.extract a b).toList = (s.extract a b).data.toList by simp [ByteArray.toList_eq]]
  simp [ByteArray.data_extract, Array.toList_extract, List.extract_eq_take_drop, List.drop_take]
theorem ext2 {s : ByteArray} {n : Nat} (h : n + 2 ≤ s.size) (hv : ((s.extract n (n + 2)).toList == [45, 62]) = true) : byteAt s n = 45 ∧ byteAt s (n + 1) = 62 := by
  have e := eq_of_beq hv
  rw [ext_list] at e
  have g : ∀ k, k < 2 → (s.data.toList)[n + k]? = [45, 62][k]? := fun k hk => by rw [← e, List.getElem?_drop, List.getElem?_take, if_pos (by omega)]
  have hb : ∀ k (c : UInt8), n + k < s.size → (s.data.toList)[n + k]? = some c → byteAt s (n + k) = c.toNat := fun k c hl hc => by
    unfold byteAt
    rw [get!_at s (n + k) hl]
    have hl' : n + k < s.data.toList.length := by rw [Array.length_toList]; exact hl
    rw [List.getElem?_eq_getElem hl'] at hc
    have := Option.some.inj hc
    rw [← this]; rfl
  exact ⟨hb 0 45 (by omega) (g 0 (by omega)), hb 1 62 (by omega) (g 1 (by omega))⟩
theorem ext3 {s : ByteArray} {n : Nat} (h : n + 3 ≤ s.size) (hv : ((s.extract n (n + 3)).toList == [33, 45, 45]) = true) : byteAt s n = 33 ∧ byteAt s (n + 1) = 45 ∧ byteAt s (n + 2) = 45 := by
  have e := eq_of_beq hv
  rw [ext_list] at e
  have g : ∀ k, k < 3 → (s.data.toList)[n + k]? = [33, 45, 45][k]? := fun k hk => by rw [← e, List.getElem?_drop, List.getElem?_take, if_pos (by omega)]
  have hb : ∀ k (c : UInt8), n + k < s.size → (s.data.toList)[n + k]? = some c → byteAt s (n + k) = c.toNat := fun k c hl hc => by
    unfold byteAt
    rw [get!_at s (n + k) hl]
    have hl' : n + k < s.data.toList.length := by rw [Array.length_toList]; exact hl
    rw [List.getElem?_eq_getElem hl'] at hc
    have := Option.some.inj hc
    rw [← this]; rfl
  exact ⟨hb 0 33 (by omega) (g 0 (by omega)), hb 1 45 (by omega) (g 1 (by omega)), hb 2 45 (by omega) (g 2 (by omega))⟩
/-- whitespace passed over so far -/
def WRel (w : World) (p : Nat) (x : Lx) (b q k : Nat) (wr : World) : Prop := ∃ q2, q < q2 ∧ Lex wr p (reset x q) b q2 ∧ x.s.size - q2 ≤ k ∧ w.grownBy wr (some p)
theorem Lex.drewN' {w : World} {p : Nat} {x : Lx} {b q : Nat} {m : Nat} (h : Lex w p x b q) : Lex (w.drewN m) p x b q := h.drewN m
theorem gb_drewN {a w : World} {row : Option Nat} {m : Nat} (h : a.grownBy w row) : a.grownBy (w.drewN m) row := ⟨h.os, h.tape, h.output, h.size, h.block⟩
end Go.Proofs.YtlbpplkanogkgaaDoor
