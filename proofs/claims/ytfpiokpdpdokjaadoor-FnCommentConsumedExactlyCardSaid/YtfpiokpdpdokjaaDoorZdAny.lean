/-
  The law's own decoder (function 10) is the model's: the classes of Zd joined. No statement of the seat is proved here.
-/
import Derived.Test.YtfpiokpdpdokjaaDoorZd
namespace Go.Proofs.YtfpiokpdpdokjaaDoor.Zd
open Go.RowKit
set_option linter.unusedVariables false
theorem any (s : ByteArray) (i : Nat) (w : World) (h : i < s.size) (hs : s.size ≤ 2097152) :
    Calls Tryd.prog 10 #[.string s, .int .i64 i] w (Dec w ((Utf8.decode s i).1 : Int) (Utf8.decode s i).2) := by
  have E0 : (s[i]'h).toNat = (s.get! i).toNat := by rw [get!_at s _ h]
  have E : ∀ k (hk : i + k < s.size), (s[i + k]'hk).toNat = (s.get! (i + k)).toNat := fun k hk => by rw [get!_at s _ hk]
  have q0 := u8lt (s.get! i)
  have q1 := u8lt (s.get! (i + 1))
  have q2 := u8lt (s.get! (i + 2))
  have q3 := u8lt (s.get! (i + 3))
  have D := Lib.decode_at s i
  have J : ∀ {a b : Nat} {v : Int} {w : World}, Lib.decodeN (s.size - i) (s.get! i).toNat (s.get! (i + 1)).toNat (s.get! (i + 2)).toNat (s.get! (i + 3)).toNat = (a, b) → v = (a : Int) → Calls Tryd.prog 10 #[.string s, .int .i64 i] w (Dec w v b) → Calls Tryd.prog 10 #[.string s, .int .i64 i] w (Dec w ((Utf8.decode s i).1 : Int) (Utf8.decode s i).2) := by
    intro a b v w e ev hc
    subst ev
    rw [D, e]; exact hc
  clear D
  rcases (show (s.get! i).toNat < 128 ∨ (128 ≤ (s.get! i).toNat ∧ (s.get! i).toNat < 194) ∨ (194 ≤ (s.get! i).toNat ∧ (s.get! i).toNat ≤ 223) ∨ (s.get! i).toNat = 224 ∨ (s.get! i).toNat = 237 ∨ (225 ≤ (s.get! i).toNat ∧ (s.get! i).toNat < 240 ∧ ¬ (s.get! i).toNat = 237) ∨ (s.get! i).toNat = 240 ∨ (s.get! i).toNat = 244 ∨ (241 ≤ (s.get! i).toNat ∧ (s.get! i).toNat < 244) ∨ 244 < (s.get! i).toNat by omega) with c | c | c | c | c | c | c | c | c | c
  · exact J (dec_a _ _ _ _ _ c) (by omega) (a s i _ w h hs E0  (by omega))
  · exact J (dec_lo _ _ _ _ _ c.1 c.2) (by omega) (lo s i _ w h hs E0  (by omega) (by omega))
  · by_cases l1 : i + 1 < s.size
    · rcases (show (s.get! (i + 1)).toNat < 128 ∨ 191 < (s.get! (i + 1)).toNat ∨ (128 ≤ (s.get! (i + 1)).toNat ∧ (s.get! (i + 1)).toNat ≤ 191) by omega) with k | k | k
      · exact J (dec_2n _ _ _ _ _ c.1 c.2 (by omega) q1) (by omega) (two_lo s i _ _ w h (by omega) hs E0 (E 1 (by omega)) (by omega) (by omega) (by omega))
      · exact J (dec_2n _ _ _ _ _ c.1 c.2 (by omega) q1) (by omega) (two_hi s i _ _ w h (by omega) hs E0 (E 1 (by omega)) (by omega) (by omega) (by omega) (by omega))
      · exact J (dec_2 _ _ _ _ _ c.1 c.2 (by omega) k.1 k.2) (by omega) (two s i _ _ w h (by omega) hs E0 (E 1 (by omega)) (by omega) (by omega) (by omega) (by omega))
    · exact J (dec_2n _ _ _ _ _ c.1 c.2 (by omega) q1) (by omega) (two_short s i _ w h hs E0  (by omega) (by omega) (by omega))
  · have L1 : lo3 (s.get! i).toNat = 160 := by unfold lo3; rw [if_pos (by omega)]
    have L2 : hi3 (s.get! i).toNat = 191 := by unfold hi3; rw [if_neg (by omega)]
    by_cases l1 : i + 2 < s.size
    · rcases (show (s.get! (i + 1)).toNat < 160 ∨ 191 < (s.get! (i + 1)).toNat ∨ (160 ≤ (s.get! (i + 1)).toNat ∧ (s.get! (i + 1)).toNat ≤ 191) by omega) with k | k | k
      · exact J (dec_3n _ _ _ _ _ (by omega) (by omega) (by rw [L1, L2]; omega) q1 q2) (by omega) (e0_lo s i _ _ w h (by omega) hs E0 (E 1 (by omega)) (by omega) (by omega) (by omega) (by omega))
      · exact J (dec_3n _ _ _ _ _ (by omega) (by omega) (by rw [L1, L2]; omega) q1 q2) (by omega) (e0_hi s i _ _ w h (by omega) hs E0 (E 1 (by omega)) (by omega) (by omega) (by omega) (by omega) (by omega))
      · rcases (show (s.get! (i + 2)).toNat < 128 ∨ 191 < (s.get! (i + 2)).toNat ∨ (128 ≤ (s.get! (i + 2)).toNat ∧ (s.get! (i + 2)).toNat ≤ 191) by omega) with k2 | k2 | k2
        · exact J (dec_3n _ _ _ _ _ (by omega) (by omega) (by rw [L1, L2]; omega) q1 q2) (by omega) (e0_lo2 s i _ _ _ w h (by omega) (by omega) hs E0 (E 1 (by omega)) (E 2 (by omega)) (by omega) (by omega) (by omega) (by omega) (by omega))
        · exact J (dec_3n _ _ _ _ _ (by omega) (by omega) (by rw [L1, L2]; omega) q1 q2) (by omega) (e0_hi2 s i _ _ _ w h (by omega) (by omega) hs E0 (E 1 (by omega)) (E 2 (by omega)) (by omega) (by omega) (by omega) (by omega) (by omega) (by omega))
        · exact J (dec_3 _ _ _ _ _ (by omega) (by omega) (by omega) (by rw [L1]; omega) (by rw [L2]; omega) (by omega) (by omega)) (by omega) (e0 s i _ _ _ w h (by omega) (by omega) hs E0 (E 1 (by omega)) (E 2 (by omega)) (by omega) (by omega) (by omega) (by omega) (by omega) (by omega))
    · exact J (dec_3n _ _ _ _ _ (by omega) (by omega) (by rw [L1, L2]; omega) q1 q2) (by omega) (e0_short s i _ w h hs E0  (by omega) (by omega) (by omega))
  · have L1 : lo3 (s.get! i).toNat = 128 := by unfold lo3; rw [if_neg (by omega)]
    have L2 : hi3 (s.get! i).toNat = 159 := by unfold hi3; rw [if_pos (by omega)]
    by_cases l1 : i + 2 < s.size
    · rcases (show (s.get! (i + 1)).toNat < 128 ∨ 159 < (s.get! (i + 1)).toNat ∨ (128 ≤ (s.get! (i + 1)).toNat ∧ (s.get! (i + 1)).toNat ≤ 159) by omega) with k | k | k
      · exact J (dec_3n _ _ _ _ _ (by omega) (by omega) (by rw [L1, L2]; omega) q1 q2) (by omega) (ed_lo s i _ _ w h (by omega) hs E0 (E 1 (by omega)) (by omega) (by omega) (by omega) (by omega))
      · exact J (dec_3n _ _ _ _ _ (by omega) (by omega) (by rw [L1, L2]; omega) q1 q2) (by omega) (ed_hi s i _ _ w h (by omega) hs E0 (E 1 (by omega)) (by omega) (by omega) (by omega) (by omega) (by omega))
      · rcases (show (s.get! (i + 2)).toNat < 128 ∨ 191 < (s.get! (i + 2)).toNat ∨ (128 ≤ (s.get! (i + 2)).toNat ∧ (s.get! (i + 2)).toNat ≤ 191) by omega) with k2 | k2 | k2
        · exact J (dec_3n _ _ _ _ _ (by omega) (by omega) (by rw [L1, L2]; omega) q1 q2) (by omega) (ed_lo2 s i _ _ _ w h (by omega) (by omega) hs E0 (E 1 (by omega)) (E 2 (by omega)) (by omega) (by omega) (by omega) (by omega) (by omega))
        · exact J (dec_3n _ _ _ _ _ (by omega) (by omega) (by rw [L1, L2]; omega) q1 q2) (by omega) (ed_hi2 s i _ _ _ w h (by omega) (by omega) hs E0 (E 1 (by omega)) (E 2 (by omega)) (by omega) (by omega) (by omega) (by omega) (by omega) (by omega))
        · exact J (dec_3 _ _ _ _ _ (by omega) (by omega) (by omega) (by rw [L1]; omega) (by rw [L2]; omega) (by omega) (by omega)) (by omega) (ed s i _ _ _ w h (by omega) (by omega) hs E0 (E 1 (by omega)) (E 2 (by omega)) (by omega) (by omega) (by omega) (by omega) (by omega) (by omega))
    · exact J (dec_3n _ _ _ _ _ (by omega) (by omega) (by rw [L1, L2]; omega) q1 q2) (by omega) (ed_short s i _ w h hs E0  (by omega) (by omega) (by omega))
  · have L1 : lo3 (s.get! i).toNat = 128 := by unfold lo3; rw [if_neg (by omega)]
    have L2 : hi3 (s.get! i).toNat = 191 := by unfold hi3; rw [if_neg (by omega)]
    by_cases l1 : i + 2 < s.size
    · rcases (show (s.get! (i + 1)).toNat < 128 ∨ 191 < (s.get! (i + 1)).toNat ∨ (128 ≤ (s.get! (i + 1)).toNat ∧ (s.get! (i + 1)).toNat ≤ 191) by omega) with k | k | k
      · exact J (dec_3n _ _ _ _ _ (by omega) (by omega) (by rw [L1, L2]; omega) q1 q2) (by omega) (ex_lo s i _ _ w h (by omega) hs E0 (E 1 (by omega)) (by omega) (by omega) (by omega) (by omega) (by omega))
      · exact J (dec_3n _ _ _ _ _ (by omega) (by omega) (by rw [L1, L2]; omega) q1 q2) (by omega) (ex_hi s i _ _ w h (by omega) hs E0 (E 1 (by omega)) (by omega) (by omega) (by omega) (by omega) (by omega) (by omega))
      · rcases (show (s.get! (i + 2)).toNat < 128 ∨ 191 < (s.get! (i + 2)).toNat ∨ (128 ≤ (s.get! (i + 2)).toNat ∧ (s.get! (i + 2)).toNat ≤ 191) by omega) with k2 | k2 | k2
        · exact J (dec_3n _ _ _ _ _ (by omega) (by omega) (by rw [L1, L2]; omega) q1 q2) (by omega) (ex_lo2 s i _ _ _ w h (by omega) (by omega) hs E0 (E 1 (by omega)) (E 2 (by omega)) (by omega) (by omega) (by omega) (by omega) (by omega) (by omega))
        · exact J (dec_3n _ _ _ _ _ (by omega) (by omega) (by rw [L1, L2]; omega) q1 q2) (by omega) (ex_hi2 s i _ _ _ w h (by omega) (by omega) hs E0 (E 1 (by omega)) (E 2 (by omega)) (by omega) (by omega) (by omega) (by omega) (by omega) (by omega) (by omega))
        · exact J (dec_3 _ _ _ _ _ (by omega) (by omega) (by omega) (by rw [L1]; omega) (by rw [L2]; omega) (by omega) (by omega)) (by omega) (ex s i _ _ _ w h (by omega) (by omega) hs E0 (E 1 (by omega)) (E 2 (by omega)) (by omega) (by omega) (by omega) (by omega) (by omega) (by omega) (by omega))
    · exact J (dec_3n _ _ _ _ _ (by omega) (by omega) (by rw [L1, L2]; omega) q1 q2) (by omega) (ex_short s i _ w h hs E0  (by omega) (by omega) (by omega) (by omega))
  · have L1 : lo4 (s.get! i).toNat = 144 := by unfold lo4; rw [if_pos (by omega)]
    have L2 : hi4 (s.get! i).toNat = 191 := by unfold hi4; rw [if_neg (by omega)]
    by_cases l1 : i + 3 < s.size
    · rcases (show (s.get! (i + 1)).toNat < 144 ∨ 191 < (s.get! (i + 1)).toNat ∨ (144 ≤ (s.get! (i + 1)).toNat ∧ (s.get! (i + 1)).toNat ≤ 191) by omega) with k | k | k
      · exact J (dec_4n _ _ _ _ _ (by omega) (by omega) (by rw [L1, L2]; omega) q1 q2 q3) (by omega) (f0_lo s i _ _ w h (by omega) hs E0 (E 1 (by omega)) (by omega) (by omega) (by omega) (by omega))
      · exact J (dec_4n _ _ _ _ _ (by omega) (by omega) (by rw [L1, L2]; omega) q1 q2 q3) (by omega) (f0_hi s i _ _ w h (by omega) hs E0 (E 1 (by omega)) (by omega) (by omega) (by omega) (by omega) (by omega))
      · rcases (show (s.get! (i + 2)).toNat < 128 ∨ 191 < (s.get! (i + 2)).toNat ∨ (128 ≤ (s.get! (i + 2)).toNat ∧ (s.get! (i + 2)).toNat ≤ 191) by omega) with k2 | k2 | k2
        · exact J (dec_4n _ _ _ _ _ (by omega) (by omega) (by rw [L1, L2]; omega) q1 q2 q3) (by omega) (f0_lo2 s i _ _ _ w h (by omega) (by omega) hs E0 (E 1 (by omega)) (E 2 (by omega)) (by omega) (by omega) (by omega) (by omega) (by omega) (by omega))
        · exact J (dec_4n _ _ _ _ _ (by omega) (by omega) (by rw [L1, L2]; omega) q1 q2 q3) (by omega) (f0_hi2 s i _ _ _ w h (by omega) (by omega) hs E0 (E 1 (by omega)) (E 2 (by omega)) (by omega) (by omega) (by omega) (by omega) (by omega) (by omega) (by omega))
        · rcases (show (s.get! (i + 3)).toNat < 128 ∨ 191 < (s.get! (i + 3)).toNat ∨ (128 ≤ (s.get! (i + 3)).toNat ∧ (s.get! (i + 3)).toNat ≤ 191) by omega) with k3 | k3 | k3
          · exact J (dec_4n _ _ _ _ _ (by omega) (by omega) (by rw [L1, L2]; omega) q1 q2 q3) (by omega) (f0_lo3 s i _ _ _ _ w h (by omega) (by omega) (by omega) hs E0 (E 1 (by omega)) (E 2 (by omega)) (E 3 (by omega)) (by omega) (by omega) (by omega) (by omega) (by omega) (by omega) (by omega))
          · exact J (dec_4n _ _ _ _ _ (by omega) (by omega) (by rw [L1, L2]; omega) q1 q2 q3) (by omega) (f0_hi3 s i _ _ _ _ w h (by omega) (by omega) (by omega) hs E0 (E 1 (by omega)) (E 2 (by omega)) (E 3 (by omega)) (by omega) (by omega) (by omega) (by omega) (by omega) (by omega) (by omega) (by omega))
          · exact J (dec_4 _ _ _ _ _ (by omega) (by omega) (by omega) (by rw [L1]; omega) (by rw [L2]; omega) (by omega) (by omega) (by omega) (by omega)) (by omega) (f0 s i _ _ _ _ w h (by omega) (by omega) (by omega) hs E0 (E 1 (by omega)) (E 2 (by omega)) (E 3 (by omega)) (by omega) (by omega) (by omega) (by omega) (by omega) (by omega) (by omega) (by omega))
    · exact J (dec_4n _ _ _ _ _ (by omega) (by omega) (by rw [L1, L2]; omega) q1 q2 q3) (by omega) (f0_short s i _ w h hs E0  (by omega) (by omega) (by omega))
  · have L1 : lo4 (s.get! i).toNat = 128 := by unfold lo4; rw [if_neg (by omega)]
    have L2 : hi4 (s.get! i).toNat = 143 := by unfold hi4; rw [if_pos (by omega)]
    by_cases l1 : i + 3 < s.size
    · rcases (show (s.get! (i + 1)).toNat < 128 ∨ 143 < (s.get! (i + 1)).toNat ∨ (128 ≤ (s.get! (i + 1)).toNat ∧ (s.get! (i + 1)).toNat ≤ 143) by omega) with k | k | k
      · exact J (dec_4n _ _ _ _ _ (by omega) (by omega) (by rw [L1, L2]; omega) q1 q2 q3) (by omega) (f4_lo s i _ _ w h (by omega) hs E0 (E 1 (by omega)) (by omega) (by omega) (by omega) (by omega))
      · exact J (dec_4n _ _ _ _ _ (by omega) (by omega) (by rw [L1, L2]; omega) q1 q2 q3) (by omega) (f4_hi s i _ _ w h (by omega) hs E0 (E 1 (by omega)) (by omega) (by omega) (by omega) (by omega) (by omega))
      · rcases (show (s.get! (i + 2)).toNat < 128 ∨ 191 < (s.get! (i + 2)).toNat ∨ (128 ≤ (s.get! (i + 2)).toNat ∧ (s.get! (i + 2)).toNat ≤ 191) by omega) with k2 | k2 | k2
        · exact J (dec_4n _ _ _ _ _ (by omega) (by omega) (by rw [L1, L2]; omega) q1 q2 q3) (by omega) (f4_lo2 s i _ _ _ w h (by omega) (by omega) hs E0 (E 1 (by omega)) (E 2 (by omega)) (by omega) (by omega) (by omega) (by omega) (by omega) (by omega))
        · exact J (dec_4n _ _ _ _ _ (by omega) (by omega) (by rw [L1, L2]; omega) q1 q2 q3) (by omega) (f4_hi2 s i _ _ _ w h (by omega) (by omega) hs E0 (E 1 (by omega)) (E 2 (by omega)) (by omega) (by omega) (by omega) (by omega) (by omega) (by omega) (by omega))
        · rcases (show (s.get! (i + 3)).toNat < 128 ∨ 191 < (s.get! (i + 3)).toNat ∨ (128 ≤ (s.get! (i + 3)).toNat ∧ (s.get! (i + 3)).toNat ≤ 191) by omega) with k3 | k3 | k3
          · exact J (dec_4n _ _ _ _ _ (by omega) (by omega) (by rw [L1, L2]; omega) q1 q2 q3) (by omega) (f4_lo3 s i _ _ _ _ w h (by omega) (by omega) (by omega) hs E0 (E 1 (by omega)) (E 2 (by omega)) (E 3 (by omega)) (by omega) (by omega) (by omega) (by omega) (by omega) (by omega) (by omega))
          · exact J (dec_4n _ _ _ _ _ (by omega) (by omega) (by rw [L1, L2]; omega) q1 q2 q3) (by omega) (f4_hi3 s i _ _ _ _ w h (by omega) (by omega) (by omega) hs E0 (E 1 (by omega)) (E 2 (by omega)) (E 3 (by omega)) (by omega) (by omega) (by omega) (by omega) (by omega) (by omega) (by omega) (by omega))
          · exact J (dec_4 _ _ _ _ _ (by omega) (by omega) (by omega) (by rw [L1]; omega) (by rw [L2]; omega) (by omega) (by omega) (by omega) (by omega)) (by omega) (f4 s i _ _ _ _ w h (by omega) (by omega) (by omega) hs E0 (E 1 (by omega)) (E 2 (by omega)) (E 3 (by omega)) (by omega) (by omega) (by omega) (by omega) (by omega) (by omega) (by omega) (by omega))
    · exact J (dec_4n _ _ _ _ _ (by omega) (by omega) (by rw [L1, L2]; omega) q1 q2 q3) (by omega) (f4_short s i _ w h hs E0  (by omega) (by omega) (by omega))
  · have L1 : lo4 (s.get! i).toNat = 128 := by unfold lo4; rw [if_neg (by omega)]
    have L2 : hi4 (s.get! i).toNat = 191 := by unfold hi4; rw [if_neg (by omega)]
    by_cases l1 : i + 3 < s.size
    · rcases (show (s.get! (i + 1)).toNat < 128 ∨ 191 < (s.get! (i + 1)).toNat ∨ (128 ≤ (s.get! (i + 1)).toNat ∧ (s.get! (i + 1)).toNat ≤ 191) by omega) with k | k | k
      · exact J (dec_4n _ _ _ _ _ (by omega) (by omega) (by rw [L1, L2]; omega) q1 q2 q3) (by omega) (fx_lo s i _ _ w h (by omega) hs E0 (E 1 (by omega)) (by omega) (by omega) (by omega) (by omega))
      · exact J (dec_4n _ _ _ _ _ (by omega) (by omega) (by rw [L1, L2]; omega) q1 q2 q3) (by omega) (fx_hi s i _ _ w h (by omega) hs E0 (E 1 (by omega)) (by omega) (by omega) (by omega) (by omega) (by omega))
      · rcases (show (s.get! (i + 2)).toNat < 128 ∨ 191 < (s.get! (i + 2)).toNat ∨ (128 ≤ (s.get! (i + 2)).toNat ∧ (s.get! (i + 2)).toNat ≤ 191) by omega) with k2 | k2 | k2
        · exact J (dec_4n _ _ _ _ _ (by omega) (by omega) (by rw [L1, L2]; omega) q1 q2 q3) (by omega) (fx_lo2 s i _ _ _ w h (by omega) (by omega) hs E0 (E 1 (by omega)) (E 2 (by omega)) (by omega) (by omega) (by omega) (by omega) (by omega) (by omega))
        · exact J (dec_4n _ _ _ _ _ (by omega) (by omega) (by rw [L1, L2]; omega) q1 q2 q3) (by omega) (fx_hi2 s i _ _ _ w h (by omega) (by omega) hs E0 (E 1 (by omega)) (E 2 (by omega)) (by omega) (by omega) (by omega) (by omega) (by omega) (by omega) (by omega))
        · rcases (show (s.get! (i + 3)).toNat < 128 ∨ 191 < (s.get! (i + 3)).toNat ∨ (128 ≤ (s.get! (i + 3)).toNat ∧ (s.get! (i + 3)).toNat ≤ 191) by omega) with k3 | k3 | k3
          · exact J (dec_4n _ _ _ _ _ (by omega) (by omega) (by rw [L1, L2]; omega) q1 q2 q3) (by omega) (fx_lo3 s i _ _ _ _ w h (by omega) (by omega) (by omega) hs E0 (E 1 (by omega)) (E 2 (by omega)) (E 3 (by omega)) (by omega) (by omega) (by omega) (by omega) (by omega) (by omega) (by omega))
          · exact J (dec_4n _ _ _ _ _ (by omega) (by omega) (by rw [L1, L2]; omega) q1 q2 q3) (by omega) (fx_hi3 s i _ _ _ _ w h (by omega) (by omega) (by omega) hs E0 (E 1 (by omega)) (E 2 (by omega)) (E 3 (by omega)) (by omega) (by omega) (by omega) (by omega) (by omega) (by omega) (by omega) (by omega))
          · exact J (dec_4 _ _ _ _ _ (by omega) (by omega) (by omega) (by rw [L1]; omega) (by rw [L2]; omega) (by omega) (by omega) (by omega) (by omega)) (by omega) (fx s i _ _ _ _ w h (by omega) (by omega) (by omega) hs E0 (E 1 (by omega)) (E 2 (by omega)) (E 3 (by omega)) (by omega) (by omega) (by omega) (by omega) (by omega) (by omega) (by omega) (by omega))
    · exact J (dec_4n _ _ _ _ _ (by omega) (by omega) (by rw [L1, L2]; omega) q1 q2 q3) (by omega) (fx_short s i _ w h hs E0  (by omega) (by omega) (by omega))
  · exact J (dec_hi _ _ _ _ _ (by omega)) (by omega) (hi s i _ w h hs E0  (by omega) (by omega))
end Go.Proofs.YtfpiokpdpdokjaaDoor.Zd
