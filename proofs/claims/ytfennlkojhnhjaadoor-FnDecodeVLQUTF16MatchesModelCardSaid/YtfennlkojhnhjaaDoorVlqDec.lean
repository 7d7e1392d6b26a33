/-
  The plain side of FnDecodeVLQUTF16MatchesModel: where a run of base64 digits ends, its base-32 value, and what or-ing shifted digits into an int32 makes. No program in sight.
-/
import Derived.Test.YtfennlkojhnhjaaDoorVlq
import Derived.Test.YtfennlkojhnhjaaDoorBits
import Derived.Lib.Bytealg
namespace Go.Proofs.YtfennlkojhnhjaaDoor

/-- the digit of unit k, by its low eight bits -/
def ud (zs : List Int) (k : Nat) : Int := bi (nth zs k % 256)
theorem ud_bd (zs : List Int) (k : Nat) : -1 ≤ ud zs k ∧ ud zs k ≤ 63 := bi_bd _
/-- the run ends behind e units -/
def Ends (zs : List Int) (e : Nat) : Prop := 1 ≤ e ∧ e ≤ zs.length ∧ (∀ k, k + 1 < e → 32 ≤ ud zs k) ∧ 0 ≤ ud zs (e - 1) ∧ ud zs (e - 1) < 32
/-- it does not end: k units bear the continuation bit, then the end or a foreign unit -/
def Runs (zs : List Int) (k : Nat) : Prop := k ≤ zs.length ∧ (∀ j, j < k → 32 ≤ ud zs j) ∧ (k = zs.length ∨ (k < zs.length ∧ ud zs k < 0))
theorem ends_or (zs : List Int) : ∀ c k, zs.length - k = c → k ≤ zs.length → (∀ j, j < k → 32 ≤ ud zs j) → (∃ e, Ends zs e) ∨ ∃ k, Runs zs k := by
  intro c
  induction c with
  | zero => intro k h1 h2 h3; exact .inr ⟨k, h2, h3, .inl (by omega)⟩
  | succ c ih =>
    intro k h1 h2 h3
    by_cases h4 : ud zs k < 0
    · exact .inr ⟨k, h2, h3, .inr ⟨by omega, h4⟩⟩
    · by_cases h5 : ud zs k < 32
      · exact .inl ⟨k + 1, by omega, by omega, fun j hj => h3 j (by omega), by simpa using h4, by simpa using h5⟩
      · refine ih (k + 1) (by omega) (by omega) fun j hj => ?_
        rcases (show j = k ∨ j < k by omega) with rfl | h
        · omega
        · exact h3 j h

/-- the base-32 value of c units from k on -/
def hw (zs : List Int) : Nat → Nat → Nat
  | _, 0 => 0
  | k, c + 1 => (ud zs k).toNat % 32 + 32 * hw zs (k + 1) c
theorem hw_lt (zs : List Int) : ∀ c k, hw zs k c < 32 ^ c
  | 0, _ => by simp [hw]
  | c + 1, k => by
    have := hw_lt zs c (k + 1)
    rw [hw, Nat.pow_succ]
    omega
theorem hw_snoc (zs : List Int) : ∀ c k, hw zs k (c + 1) = hw zs k c + 32 ^ c * ((ud zs (k + c)).toNat % 32)
  | 0, k => by simp [hw]
  | c + 1, k => by
    rw [hw, hw_snoc zs c (k + 1), hw, Nat.pow_succ, show k + 1 + c = k + (c + 1) from by omega]
    have : 32 * (32 ^ c * ((ud zs (k + (c + 1))).toNat % 32)) = 32 ^ c * 32 * ((ud zs (k + (c + 1))).toNat % 32) := by
      rw [← Nat.mul_assoc, Nat.mul_comm 32]
    omega

theorem ofInt_wrap32 (x : Int) : BitVec.ofInt 32 (IntKind.i32.wrap x) = BitVec.ofInt 32 x := by
  apply BitVec.eq_of_toNat_eq
  rw [BitVec.toNat_ofInt, BitVec.toNat_ofInt, IntKind.wrap_i32]
  have h : ((x + 2147483648) % 4294967296 - 2147483648) % 4294967296 = x % 4294967296 := by omega
  exact congrArg Int.toNat h
theorem wrap32_mod (n : Nat) : IntKind.i32.wrap ((n % 4294967296 : Nat) : Int) = IntKind.i32.wrap (n : Int) := by
  rw [IntKind.wrap_i32, IntKind.wrap_i32]; omega
theorem or_wrap32 (x y : Nat) : bits .or .i32 (IntKind.i32.wrap (x : Int)) (IntKind.i32.wrap (y : Int)) = IntKind.i32.wrap ((x ||| y : Nat) : Int) := by
  show IntKind.i32.wrap ((BitVec.ofInt 32 (IntKind.i32.wrap (x : Int)) ||| BitVec.ofInt 32 (IntKind.i32.wrap (y : Int))).toNat : Int) = _
  rw [ofInt_wrap32, ofInt_wrap32, BitVec.ofInt_natCast, BitVec.ofInt_natCast, BitVec.toNat_or, BitVec.toNat_ofNat, BitVec.toNat_ofNat, ← Nat.or_mod_two_pow]
  exact wrap32_mod _
/-- what is gathered behind k digits: seven of them at most, cut to 32 bits -/
def acc (zs : List Int) (k : Nat) : Int := IntKind.i32.wrap ((hw zs 0 (min k 7) : Nat) : Int)
theorem pow_shift (k : Nat) : 2 ^ (5 * k) = 32 ^ k := by rw [Nat.pow_mul]
theorem acc_step (zs : List Int) (k : Nat) (d : Nat) (hd : (ud zs k).toNat % 32 = d) : bits .or .i32 (acc zs k) (IntKind.i32.wrap (((d * 2 ^ min (5 * k) 32 : Nat)) : Int)) = acc zs (k + 1) := by
  unfold acc
  rw [or_wrap32]
  by_cases h : k < 7
  · rw [show min k 7 = k from by omega, show min (k + 1) 7 = k + 1 from by omega, show min (5 * k) 32 = 5 * k from by omega, hw_snoc, Nat.zero_add, hd]
    have hlt := hw_lt zs k 0
    have := Nat.two_pow_add_eq_or_of_lt (i := 5 * k) (b := hw zs 0 k) (by rw [pow_shift]; exact hlt) d
    rw [pow_shift] at this ⊢
    rw [Nat.mul_comm d, Nat.or_comm, ← this, Nat.add_comm]
  · rw [show min k 7 = 7 from by omega, show min (k + 1) 7 = 7 from by omega, show min (5 * k) 32 = 32 from by omega]
    rw [← wrap32_mod, show (4294967296 : Nat) = 2 ^ 32 from rfl, Nat.or_mod_two_pow, Nat.mul_mod_left, Nat.or_zero]
    exact wrap32_mod _
theorem acc_step' (zs : List Int) (k : Nat) (d : Nat) (hd : (ud zs k).toNat % 32 = d) : bits .or .i32 (acc zs k) (RowKit.wrap32 ((d : Int) * 2 ^ min (5 * k) 32)) = acc zs (k + 1) := by
  have e : RowKit.wrap32 ((d : Int) * 2 ^ min (5 * k) 32) = IntKind.i32.wrap (((d * 2 ^ min (5 * k) 32 : Nat)) : Int) := by
    rw [IntKind.wrap_i32]; unfold RowKit.wrap32; simp only [Int.natCast_mul, Int.natCast_pow, Int.cast_ofNat_Int]
  rw [e]; exact acc_step zs k d hd
theorem acc_zero (zs : List Int) : acc zs 0 = 0 := by simp [acc, hw]; rfl
theorem acc_bd (zs : List Int) (k : Nat) : -2147483648 ≤ acc zs k ∧ acc zs k ≤ 2147483647 := by unfold acc; rw [IntKind.wrap_i32]; omega
/-- the answer: floor of the half, negated where the low bit stands -/
def sval (s : Int) : Int := if s % 2 = 0 then s / 2 else -(s / 2)
end Go.Proofs.YtfennlkojhnhjaaDoor
