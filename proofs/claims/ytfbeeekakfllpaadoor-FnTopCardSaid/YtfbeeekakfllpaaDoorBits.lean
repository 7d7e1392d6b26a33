/-
  Bit operations on int in the words of Nat: and, or with small masks. No statement of the seat is proved here.
-/
import Derived.Laws.BitsAllLaws
import Derived.Laws.BitsLemmas
namespace Go.Proofs.YtfbeeekakfllpaaDoor
theorem ofInt_i64 (a : Nat) (ha : a < 9223372036854775808) : (BitVec.ofInt 64 (a : Int)).toNat = a := by
  rw [BitVec.ofInt_natCast, BitVec.toNat_ofNat]; exact Nat.mod_eq_of_lt (by omega)
theorem i64_and_nat (a b : Nat) (ha : a < 9223372036854775808) (hb : b < 9223372036854775808) : bits .and .i64 (a : Int) (b : Int) = ((a &&& b : Nat) : Int) := by
  have hx : a &&& b < 2 ^ 63 := Nat.and_lt_two_pow _ (by omega)
  show IntKind.i64.wrap ((BitVec.ofInt 64 (a : Int) &&& BitVec.ofInt 64 (b : Int)).toNat : Int) = _
  rw [BitVec.toNat_and, ofInt_i64 a ha, ofInt_i64 b hb, IntKind.wrap_i64]
  omega
theorem i64_or_nat (a b : Nat) (ha : a < 9223372036854775808) (hb : b < 9223372036854775808) : bits .or .i64 (a : Int) (b : Int) = ((a ||| b : Nat) : Int) := by
  have hx : a ||| b < 2 ^ 63 := Nat.or_lt_two_pow (by omega) (by omega)
  show IntKind.i64.wrap ((BitVec.ofInt 64 (a : Int) ||| BitVec.ofInt 64 (b : Int)).toNat : Int) = _
  rw [BitVec.toNat_or, ofInt_i64 a ha, ofInt_i64 b hb, IntKind.wrap_i64]
  omega
theorem and31 (a : Nat) (ha : a < 9223372036854775808) : bits .and .i64 (a : Int) 31 = ((a % 32 : Nat) : Int) := by
  have := i64_and_nat a 31 ha (by omega)
  rw [show (a &&& 31) = a % 32 from Nat.and_two_pow_sub_one_eq_mod a 5] at this
  exact this
theorem and32 : ∀ d, d < 64 → d &&& 32 = if 32 ≤ d then 32 else 0 := by decide
theorem and32_i (d : Nat) (hd : d < 64) : bits .and .i64 (d : Int) 32 = if 32 ≤ d then 32 else 0 := by
  have := i64_and_nat d 32 (by omega) (by omega)
  rw [and32 d hd] at this
  rw [show (32 : Int) = ((32 : Nat) : Int) from rfl, this]
  split <;> rfl
theorem or32' : ∀ d, d < 32 → d ||| 32 = d + 32 := by decide
theorem or32 (d : Nat) (hd : d < 32) : bits .or .i64 (d : Int) 32 = ((d + 32 : Nat) : Int) := by
  have := i64_or_nat d 32 (by omega) (by omega)
  rw [or32' d hd] at this
  exact this
theorem or1 (n : Nat) (hn : n < 4611686018427387904) : bits .or .i64 ((2 * n : Nat) : Int) 1 = ((2 * n + 1 : Nat) : Int) := by
  have := i64_or_nat (2 * n) 1 (by omega) (by omega)
  have e : 2 * n ||| 1 = 2 * n + 1 := by
    have := Nat.two_pow_add_eq_or_of_lt (i := 1) (b := 1) (by decide) n
    simpa using this.symm
  rw [e] at this
  exact this
end Go.Proofs.YtfbeeekakfllpaaDoor
