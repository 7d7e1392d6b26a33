/-
  The plain side of UTF-8 decoding: the model's decoder by the ranges of the lead byte, and the bit operations of a hand-written decoder in the words of Nat. No program in sight.
-/
import Derived.Lib.DecodeN
import Derived.Laws.BitsAllLaws
import Derived.Laws.BitsLemmas
namespace Go.Proofs.YtfpiokpdpdokjaaDoor
open Go.Lib (decodeN)

theorem dec_a (n b0 b1 b2 b3 : Nat) (h : b0 < 128) : decodeN n b0 b1 b2 b3 = (b0, 1) := by unfold decodeN; rw [if_pos h]
theorem dec_lo (n b0 b1 b2 b3 : Nat) (h0 : 128 ≤ b0) (h1 : b0 < 194) : decodeN n b0 b1 b2 b3 = (65533, 1) := by
  unfold decodeN
  repeat' split
  all_goals first | (exfalso; omega) | with_reducible rfl | (simp only [Prod.mk.injEq]; omega)
theorem dec_2 (n b0 b1 b2 b3 : Nat) (h0 : 194 ≤ b0) (h1 : b0 ≤ 223) (hn : 2 ≤ n) (h2 : 128 ≤ b1) (h3 : b1 ≤ 191) : decodeN n b0 b1 b2 b3 = (b0 % 32 * 64 + b1 % 64, 2) := by
  unfold decodeN
  repeat' split
  all_goals first | (exfalso; omega) | with_reducible rfl | (simp only [Prod.mk.injEq]; omega)
theorem dec_2n (n b0 b1 b2 b3 : Nat) (h0 : 194 ≤ b0) (h1 : b0 ≤ 223) (h : n < 2 ∨ b1 < 128 ∨ 191 < b1) (hb : b1 < 256) : decodeN n b0 b1 b2 b3 = (65533, 1) := by
  unfold decodeN
  repeat' split
  all_goals first | (exfalso; omega) | with_reducible rfl | (simp only [Prod.mk.injEq]; omega)
def lo3 (b0 : Nat) : Nat := if b0 = 224 then 160 else 128
def hi3 (b0 : Nat) : Nat := if b0 = 237 then 159 else 191
def lo4 (b0 : Nat) : Nat := if b0 = 240 then 144 else 128
def hi4 (b0 : Nat) : Nat := if b0 = 244 then 143 else 191
theorem dec_3 (n b0 b1 b2 b3 : Nat) (h0 : 224 ≤ b0) (h1 : b0 ≤ 239) (hn : 3 ≤ n) (h2 : lo3 b0 ≤ b1) (h3 : b1 ≤ hi3 b0) (h4 : 128 ≤ b2) (h5 : b2 ≤ 191) : decodeN n b0 b1 b2 b3 = (b0 % 16 * 4096 + b1 % 64 * 64 + b2 % 64, 3) := by
  unfold lo3 at h2; unfold hi3 at h3
  unfold decodeN
  split at h2 <;> split at h3 <;> (repeat' split) <;> first | (exfalso; omega) | with_reducible rfl | (simp only [Prod.mk.injEq]; omega)
theorem dec_3n (n b0 b1 b2 b3 : Nat) (h0 : 224 ≤ b0) (h1 : b0 ≤ 239) (h : n < 3 ∨ b1 < lo3 b0 ∨ hi3 b0 < b1 ∨ b2 < 128 ∨ 191 < b2) (hb : b1 < 256) (hc : b2 < 256) : decodeN n b0 b1 b2 b3 = (65533, 1) := by
  unfold lo3 hi3 at h
  unfold decodeN
  split at h <;> split at h <;> (repeat' split) <;> first | (exfalso; omega) | with_reducible rfl | (simp only [Prod.mk.injEq]; omega)
theorem dec_4 (n b0 b1 b2 b3 : Nat) (h0 : 240 ≤ b0) (h1 : b0 ≤ 244) (hn : 4 ≤ n) (h2 : lo4 b0 ≤ b1) (h3 : b1 ≤ hi4 b0) (h4 : 128 ≤ b2) (h5 : b2 ≤ 191) (h6 : 128 ≤ b3) (h7 : b3 ≤ 191) : decodeN n b0 b1 b2 b3 = (b0 % 8 * 262144 + b1 % 64 * 4096 + b2 % 64 * 64 + b3 % 64, 4) := by
  unfold lo4 at h2; unfold hi4 at h3
  unfold decodeN
  split at h2 <;> split at h3 <;> (repeat' split) <;> first | (exfalso; omega) | with_reducible rfl | (simp only [Prod.mk.injEq]; omega)
theorem dec_4n (n b0 b1 b2 b3 : Nat) (h0 : 240 ≤ b0) (h1 : b0 ≤ 244) (h : n < 4 ∨ b1 < lo4 b0 ∨ hi4 b0 < b1 ∨ b2 < 128 ∨ 191 < b2 ∨ b3 < 128 ∨ 191 < b3) (hb : b1 < 256) (hc : b2 < 256) (hd : b3 < 256) : decodeN n b0 b1 b2 b3 = (65533, 1) := by
  unfold lo4 hi4 at h
  unfold decodeN
  split at h <;> split at h <;> (repeat' split) <;> first | (exfalso; omega) | with_reducible rfl | (simp only [Prod.mk.injEq]; omega)
theorem dec_hi (n b0 b1 b2 b3 : Nat) (h0 : 245 ≤ b0) : decodeN n b0 b1 b2 b3 = (65533, 1) := by
  unfold decodeN
  repeat' split
  all_goals first | (exfalso; omega) | with_reducible rfl | (simp only [Prod.mk.injEq]; omega)

/-! bits -/
theorem u8_31 : ∀ b : Nat, b < 256 → bits .and .u8 (b : Int) 31 = ((b % 32 : Nat) : Int) := by
  intro b hb
  rw [show (31 : Int) = ((31 : Nat) : Int) from rfl, u8_and_nat _ _ (by omega) (by omega), show (31 : Nat) = 2 ^ 5 - 1 from rfl, Nat.and_two_pow_sub_one_eq_mod]
theorem u8_15 : ∀ b : Nat, b < 256 → bits .and .u8 (b : Int) 15 = ((b % 16 : Nat) : Int) := by
  intro b hb
  rw [show (15 : Int) = ((15 : Nat) : Int) from rfl, u8_and_nat _ _ (by omega) (by omega), show (15 : Nat) = 2 ^ 4 - 1 from rfl, Nat.and_two_pow_sub_one_eq_mod]
theorem u8_7 : ∀ b : Nat, b < 256 → bits .and .u8 (b : Int) 7 = ((b % 8 : Nat) : Int) := by
  intro b hb
  rw [show (7 : Int) = ((7 : Nat) : Int) from rfl, u8_and_nat _ _ (by omega) (by omega), show (7 : Nat) = 2 ^ 3 - 1 from rfl, Nat.and_two_pow_sub_one_eq_mod]
theorem u8_63 : ∀ b : Nat, b < 256 → bits .and .u8 (b : Int) 63 = ((b % 64 : Nat) : Int) := by
  intro b hb
  rw [show (63 : Int) = ((63 : Nat) : Int) from rfl, u8_and_nat _ _ (by omega) (by omega), show (63 : Nat) = 2 ^ 6 - 1 from rfl, Nat.and_two_pow_sub_one_eq_mod]
theorem ofInt_i32 (a : Nat) (ha : a < 2147483648) : (BitVec.ofInt 32 (a : Int)).toNat = a := by
  rw [BitVec.ofInt_natCast, BitVec.toNat_ofNat]; exact Nat.mod_eq_of_lt (by omega)
theorem i32_or_nat (a b : Nat) (ha : a < 2147483648) (hb : b < 2147483648) : bits .or .i32 (a : Int) (b : Int) = ((a ||| b : Nat) : Int) := by
  have hx : a ||| b < 2 ^ 31 := Nat.or_lt_two_pow (by omega) (by omega)
  show IntKind.i32.wrap ((BitVec.ofInt 32 (a : Int) ||| BitVec.ofInt 32 (b : Int)).toNat : Int) = _
  rw [BitVec.toNat_or, ofInt_i32 a ha, ofInt_i32 b hb, IntKind.wrap_i32]
  omega
theorem i32_or_shift (x y k : Nat) (hy : y < 2 ^ k) (hx : x * 2 ^ k < 2147483648) (hyb : y < 2147483648) : bits .or .i32 ((x * 2 ^ k : Nat) : Int) (y : Int) = ((x * 2 ^ k + y : Nat) : Int) := by
  rw [i32_or_nat _ _ hx hyb]
  have := Nat.two_pow_add_eq_or_of_lt hy x
  rw [Nat.mul_comm x, ← this]
end Go.Proofs.YtfpiokpdpdokjaaDoor
