/-
  The bytes of a quoted text, as the law's model lays them; a walk by runes lays the same. Plain law. No statement of the seat is proved here.
-/
import Derived.Test.YtemohaonhcmpkaaFmtDg
import Derived.Test.YtemohaonhcmpkaaFmtOwnStr
namespace Go.Proofs.YtemohaonhcmpkaaFmt
open Go.RowKit

def low (b : Nat) : Nat := if 65 ≤ b ∧ b ≤ 90 then b + 32 else b
def sty (k : Nat) : Nat := if k = 0 then 115 else if k = 1 then 116 else if k = 2 then 121 else if k = 3 then 108 else 101
/-- the first n bytes of s from i on are "style" in any case -/
def lowsty (s : ByteArray) (i n : Nat) : Bool := (List.range n).all (fun k => low (byteAt s (i + k)) == sty k)
/-- does '/' at i open a closing style tag? -/
def opn (t : ByteArray) (i : Nat) : Bool := decide (1 ≤ i) && (byteAt t (i - 1) == 60) && decide (i + 6 ≤ t.size) && lowsty t (i + 1) 5
/-- is the byte at i escaped? -/
def nd (t : ByteArray) (q : Nat) (i : Nat) : Bool := byteAt t i == 92 || byteAt t i == q || (byteAt t i == 47 && opn t i)
def bz (t : ByteArray) (i : Nat) : Int := (byteAt t i : Int)
/-- what stands for the first i bytes -/
def body (t : ByteArray) (q : Nat) : Nat → List Int
  | 0 => []
  | i + 1 => body t q i ++ (if nd t q i = true then [92, bz t i] else [bz t i])
def raw (t : ByteArray) (a b : Nat) : List Int := (List.range (b - a)).map (fun j => bz t (a + j))
theorem raw_self (t : ByteArray) (a : Nat) : raw t a a = [] := by unfold raw; simp
theorem raw_snoc (t : ByteArray) (a b : Nat) (h : a ≤ b) : raw t a (b + 1) = raw t a b ++ [bz t b] := by
  unfold raw
  rw [show b + 1 - a = (b - a) + 1 by omega, List.range_succ, List.map_append]
  simp [show a + (b - a) = b by omega]
/-- ahead of i, the run begun at rs: what is laid is body rs -/
def Rn (t : ByteArray) (q rs i : Nat) : Prop := rs ≤ i ∧ body t q i = body t q rs ++ raw t rs i
theorem Rn.start (t : ByteArray) (q i : Nat) : Rn t q i i := ⟨Nat.le_refl _, by rw [raw_self]; simp⟩
theorem Rn.one {t : ByteArray} {q rs i : Nat} (h : Rn t q rs i) (hn : nd t q i = false) : Rn t q rs (i + 1) := by
  refine ⟨by have := h.1; omega, ?_⟩
  show body t q i ++ (if nd t q i = true then [92, bz t i] else [bz t i]) = _
  rw [hn, if_neg (by simp), h.2, raw_snoc t rs i h.1, List.append_assoc]
theorem Rn.many {t : ByteArray} {q rs i : Nat} (h : Rn t q rs i) : ∀ w, (∀ j, i ≤ j → j < i + w → nd t q j = false) → Rn t q rs (i + w)
  | 0, _ => h
  | w + 1, hn => (Rn.many h w (fun j h1 h2 => hn j h1 (by omega))).one (hn (i + w) (by omega) (by omega))
theorem body_esc {t : ByteArray} {q i : Nat} (hn : nd t q i = true) : body t q (i + 1) = body t q i ++ [92, bz t i] := by
  show body t q i ++ (if nd t q i = true then [92, bz t i] else [bz t i]) = _
  rw [if_pos hn]
theorem nd_high {t : ByteArray} {q j : Nat} (hq : q < 128) (h : 128 ≤ byteAt t j) : nd t q j = false := by
  unfold nd
  have e1 : (byteAt t j == 92) = false := by simp; omega
  have e2 : (byteAt t j == q) = false := by simp; omega
  have e3 : (byteAt t j == 47) = false := by simp; omega
  rw [e1, e2, e3]; rfl
theorem body_len (t : ByteArray) (q : Nat) : ∀ i, (body t q i).length ≤ 2 * i
  | 0 => by simp [body]
  | i + 1 => by
    have := body_len t q i
    show (body t q i ++ (if nd t q i = true then [92, bz t i] else [bz t i])).length ≤ _
    rw [List.length_append]
    split <;> simp <;> omega
/-- the bytes of a part of the text -/
theorem byt_extract (t : ByteArray) (a b : Nat) (hb : b ≤ t.size) : byt (t.extract a b) = raw t a b := by
  have hz : (t.extract a b).size = b - a := by simp; omega
  apply List.ext_getElem?
  intro j
  by_cases h1 : j < b - a
  · have h2 : j < (t.extract a b).size := by omega
    unfold byt raw
    rw [List.getElem?_map, Lib.data_getElem? _ j h2, List.getElem?_map, List.getElem?_range h1, Option.map_some, Option.map_some]
    unfold bz byteAt
    rw [get!_at t (a + j) (by omega)]
    simp [ByteArray.getElem_extract]
  · have e1 : (byt (t.extract a b)).length = b - a := by rw [byt_length, hz]
    have e2 : (raw t a b).length = b - a := by unfold raw; simp
    rw [List.getElem?_eq_none (by omega), List.getElem?_eq_none (by omega)]
/-- no byte, no rune that the printer writes as a hexadecimal escape -/
def NHx (t : ByteArray) : Prop := ∀ i, i < t.size → byteAt t i ≠ 0 ∧ byteAt t i ≠ 13 ∧ byteAt t i ≠ 10 ∧ byteAt t i ≠ 12 ∧ ¬ (byteAt t i = 239 ∧ i + 2 < t.size ∧ byteAt t (i + 1) = 187 ∧ byteAt t (i + 2) = 191)
theorem feff (t : ByteArray) (i : Nat) (hi : i < t.size) (hn : NHx t) : (dg t i).1 ≠ 65279 := by
  intro h
  by_cases ha : byteAt t i < 128
  · rw [dg_ascii t i hi ha] at h; simp at h; omega
  · have h4 := (hn i hi).2.2.2.2
    unfold dg at h
    rw [if_pos hi, Lib.decode_at] at h
    have e0 : (t.get! i).toNat = byteAt t i := rfl
    have e1 : (t.get! (i + 1)).toNat = byteAt t (i + 1) := rfl
    have e2 : (t.get! (i + 2)).toNat = byteAt t (i + 2) := rfl
    have l0 := byteAt_lt t i
    have l1 := byteAt_lt t (i + 1)
    have l2 := byteAt_lt t (i + 2)
    have l3 := byteAt_lt t (i + 3)
    generalize hs : t.size - i = n at h
    rw [e0, e1, e2, show (t.get! (i + 3)).toNat = byteAt t (i + 3) from rfl] at h
    generalize byteAt t i = b0 at *
    generalize byteAt t (i + 1) = b1 at *
    generalize byteAt t (i + 2) = b2 at *
    generalize byteAt t (i + 3) = b3 at *
    unfold Lib.decodeN at h
    revert h
    repeat' split
    all_goals (intro h; simp at h; try omega)
end Go.Proofs.YtemohaonhcmpkaaFmt
