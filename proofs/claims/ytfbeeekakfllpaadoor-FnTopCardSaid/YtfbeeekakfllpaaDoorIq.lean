/-
  helpers.internalQuote at the names: its small functions. No statement of the seat is proved here.
-/
import Derived.Test.YtfbeeekakfllpaaDoorSx
import Derived.Test.YtfbeeekakfllpaaDoorShelf
import Derived.Test.YtfbeeekakfllpaaDoorPq
import Derived.Test.YtfbeeekakfllpaaDoorRd
import Derived.Test.YtfbeeekakfllpaaDoorIter
namespace Go.Proofs.YtfbeeekakfllpaaDoor
open Go.RowKit
set_option linter.unusedVariables false
set_option linter.unusedSimpArgs false
/-- what a rune of a name becomes -/
def qr (s : ByteArray) (asc : Bool) (k : Nat) : List Int := if cpt s k = 34 then [92, 34] else if cpt s k = 92 then [92, 92] else if cpt s k = 233 ∧ asc = true then [92, 117, 48, 48, 69, 57] else (List.range (wd s k)).map fun j => (byteAt s (k + j) : Int)
def qx (s : ByteArray) (asc : Bool) : Nat → List Int
  | 0 => []
  | k + 1 => if ns s k = k then qx s asc k ++ qr s asc k else qx s asc k
def qt (s : ByteArray) (asc : Bool) : List Int := 34 :: (qx s asc s.size ++ [34])
theorem qx_next (s : ByteArray) (asc : Bool) (i : Nat) (hb : ns s i = i) (hl : i < s.size) : qx s asc (i + wd s i) = qx s asc i ++ qr s asc i := by
  have key : ∀ d, 1 ≤ d → d ≤ wd s i → qx s asc (i + d) = qx s asc i ++ qr s asc i := by
    intro d h1 hd
    induction d with
    | zero => omega
    | succ d ih =>
      by_cases h0 : d = 0
      · subst h0
        show (if ns s i = i then _ else _) = _; rw [if_pos hb]
      · have hne : ¬ (ns s (i + d) = i + d) := by rw [(adv s i hb hl d (by omega) (by omega)).1]; omega
        show (if ns s (i + d) = i + d then _ else _) = _
        rw [if_neg hne]; exact ih (by omega) (by omega)
  exact key _ (wd_pos s i hl) (Nat.le_refl _)
theorem qr_len (s : ByteArray) (asc : Bool) (k : Nat) (h : k < s.size) : (qr s asc k).length ≤ 6 + wd s k := by
  unfold qr
  split
  · simp; omega
  · split
    · simp; omega
    · split
      · simp
      · simp
/-- what the runes of a name are -/
def RC (s : ByteArray) (i : Nat) : Prop := (32 ≤ cpt s i ∧ cpt s i ≤ 126 ∧ wd s i = 1 ∧ byteAt s i = cpt s i) ∨ (cpt s i = 233 ∧ wd s i = 2 ∧ i + 2 ≤ s.size ∧ byteAt s i = 195 ∧ byteAt s (i + 1) = 169)
instance (s : ByteArray) (i : Nat) : Decidable (RC s i) := by unfold RC; exact inferInstance
def Nmc (s : ByteArray) : Prop := ∀ i, i < s.size → ns s i = i → RC s i
theorem nms_ok : ∀ s ∈ nms, Nmc s := by
  intro s hs
  have key : ∀ t ∈ nms, ∀ i, i < t.size → ns t i = i → RC t i := by decide +kernel
  exact key s hs
/-- a rune that stands for itself -/
def prn (s : ByteArray) (asc : Bool) (i : Nat) : Bool := decide (cpt s i ≠ 34 ∧ cpt s i ≠ 92 ∧ ¬ (cpt s i = 233 ∧ asc = true))
theorem qr_prn {s : ByteArray} {asc : Bool} {i : Nat} (h : prn s asc i = true) : qr s asc i = (List.range (wd s i)).map fun j => (byteAt s (i + j) : Int) := by
  have := of_decide_eq_true h
  unfold qr
  rw [if_neg this.1, if_neg this.2.1, if_neg this.2.2]
set_option maxRecDepth 100000 in
theorem cp_lo (c : Int) (asc : Bool) (w : World) (h0 : 32 ≤ c) (h1 : c ≤ 126) (h2 : c ≠ 34) (h3 : c ≠ 92) : Calls Tryd.prog 47 #[.int .i32 c, .bool asc] w fun e w' => e = .returned (.bool true) ∧ w' = w := by
  have q1 : (c != 92) = true := bne_iff_ne.2 h3
  have q2 : (c != 34) = true := bne_iff_ne.2 h2
  go_enter Tryd.func47, Tryd.ntmps47
  go_wp2
  go_ret
  exact ⟨rfl, rfl⟩
set_option maxRecDepth 100000 in
theorem cp_34 (asc : Bool) (w : World) : Calls Tryd.prog 47 #[.int .i32 34, .bool asc] w fun e w' => e = .returned (.bool false) ∧ w' = w := by
  go_enter Tryd.func47, Tryd.ntmps47
  go_wp2
  go_ret
  exact ⟨rfl, rfl⟩
set_option maxRecDepth 100000 in
theorem cp_92 (asc : Bool) (w : World) : Calls Tryd.prog 47 #[.int .i32 92, .bool asc] w fun e w' => e = .returned (.bool false) ∧ w' = w := by
  go_enter Tryd.func47, Tryd.ntmps47
  go_wp2
  go_ret
  exact ⟨rfl, rfl⟩
set_option maxRecDepth 100000 in
theorem cp_e9 (asc : Bool) (w : World) : Calls Tryd.prog 47 #[.int .i32 233, .bool asc] w fun e w' => e = .returned (.bool (!asc)) ∧ w' = w := by
  cases asc
  all_goals
    go_enter Tryd.func47, Tryd.ntmps47
    go_wp2
    go_ret
    exact ⟨rfl, rfl⟩
theorem cp_any (s : ByteArray) (asc : Bool) (i : Nat) (w : World) (h : RC s i) : Calls Tryd.prog 47 #[.int .i32 (cpt s i : Nat), .bool asc] w fun e w' => e = .returned (.bool (prn s asc i)) ∧ w' = w := by
  rcases h with ⟨h0, h1, _⟩ | ⟨h0, _⟩
  · by_cases h34 : cpt s i = 34
    · have : prn s asc i = false := by unfold prn; simp [h34]
      rw [this, h34]; exact cp_34 asc w
    · by_cases h92 : cpt s i = 92
      · have : prn s asc i = false := by unfold prn; simp [h92]
        rw [this, h92]; exact cp_92 asc w
      · have : prn s asc i = true := by unfold prn; simp [h34, h92]; omega
        rw [this]; exact cp_lo _ asc w (by omega) (by omega) (by omega) (by omega)
  · have : prn s asc i = !asc := by unfold prn; cases asc <;> simp [h0]
    rw [this, h0]; exact cp_e9 asc w
set_option maxRecDepth 100000 in
theorem dw_lo (t : ByteArray) (b : Nat) (w : World) (h0 : 0 < t.size) (hb : (t[0]'h0).toNat = b) (hl : b < 128) : Calls Tryd.prog 49 #[.string t] w fun e w' => e = .returned (.tuple #[.int .i32 b, .int .i64 1]) ∧ w' = w := by
  go_enter Tryd.func49, Tryd.ntmps49
  go_wp2
  go_ret2
  exact ⟨rfl, rfl⟩
set_option maxRecDepth 100000 in
theorem dw_e9 (t : ByteArray) (w : World) (h0 : 1 < t.size) (hb : (t[0]'(by omega)).toNat = 195) (hb1 : (t[1]'h0).toNat = 169) : Calls Tryd.prog 49 #[.string t] w fun e w' => e = .returned (.tuple #[.int .i32 233, .int .i64 2]) ∧ w' = w := by
  go_enter Tryd.func49, Tryd.ntmps49
  go_wp2
  go_ret2
  exact ⟨rfl, rfl⟩
theorem ext_at (s : ByteArray) (i j : Nat) (h : i + j < s.size) (h' : j < (s.extract i s.size).size) : ((s.extract i s.size)[j]'h').toNat = byteAt s (i + j) := by
  rw [← byteAt_get s (i + j) h]
  simp [ByteArray.getElem_extract]
theorem dw_any (s : ByteArray) (i : Nat) (w : World) (hi : i < s.size) (h : RC s i) : Calls Tryd.prog 49 #[.string (s.extract i s.size)] w fun e w' => e = .returned (.tuple #[.int .i32 (cpt s i : Nat), .int .i64 (wd s i : Nat)]) ∧ w' = w := by
  have hz : (s.extract i s.size).size = s.size - i := by simp
  rcases h with ⟨h0, h1, h2, h3⟩ | ⟨h0, h1, h2, h3, h4⟩
  · rw [h2]
    exact dw_lo _ _ w (by omega) ((ext_at s i 0 (by omega) (by omega)).trans h3) (by omega)
  · rw [h0, h1]
    exact dw_e9 _ w (by omega) ((ext_at s i 0 (by omega) (by omega)).trans h3) ((ext_at s i 1 (by omega) (by omega)).trans h4)
end Go.Proofs.YtfbeeekakfllpaaDoor
