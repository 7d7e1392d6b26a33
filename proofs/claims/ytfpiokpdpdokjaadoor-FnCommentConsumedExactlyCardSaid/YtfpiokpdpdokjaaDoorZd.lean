/-
  The walk of a law's own UTF-8 decoder (function 10) against the model's Utf8.decode, one theorem a class of bytes (printed by zd.py). No statement of the seat is proved here.
-/
import Derived.Test.YtfpiokpdpdokjaaDoorRows
import Derived.WalkKit
import Derived.ProofKit
import Derived.WalkSpells
import Derived.WalkLawsBesides
import Derived.LoopTactic
import Derived.RegionTactic
import Derived.ChangeAlike
import Derived.BigQuiet
import Derived.Deep.QuietTactic
import Derived.WalkSmall
import Derived.IntWalk
import Derived.Lib.OthersKept
import Derived.Test.YtfpiokpdpdokjaaDoorBase
import Derived.Test.YtfpiokpdpdokjaaDoorUtf
namespace Go.Proofs.YtfpiokpdpdokjaaDoor.Zd
open Go.RowKit
set_option linter.unusedVariables false
set_option maxRecDepth 4000
/-- what the law's decoder hands back -/
def Dec (w : World) (v : Int) (n : Nat) (r : Ending) (w' : World) : Prop := r = .returned (.tuple #[.int .i32 v, .int .i64 n]) ∧ ∃ m, w' = w.drewN m
theorem u8lt (b : UInt8) : b.toNat < 256 := b.toNat_lt
theorem or2 (a b : Nat) (ha : a < 32) (hb : b < 64) : bits .or .i32 ((a : Int) * 64) (b : Int) = (a : Int) * 64 + b := by
  have := i32_or_shift a b 6 (by omega) (by omega) (by omega)
  simpa using this
theorem or3a (a b : Nat) (ha : a < 16) (hb : b < 64) : bits .or .i32 ((a : Int) * 4096) ((b : Int) * 64) = (a : Int) * 4096 + b * 64 := by
  have := i32_or_shift a (b * 64) 12 (by omega) (by omega) (by omega)
  simpa using this
theorem or3b (a b c : Nat) (ha : a < 16) (hb : b < 64) (hc : c < 64) : bits .or .i32 ((a : Int) * 4096 + (b : Int) * 64) (c : Int) = (a : Int) * 4096 + b * 64 + c := by
  have := i32_or_shift (a * 64 + b) c 6 (by omega) (by omega) (by omega)
  rw [show (((a * 64 + b) * 2 ^ 6 : Nat) : Int) = (a : Int) * 4096 + (b : Int) * 64 by push_cast; omega] at this
  rw [this]; push_cast; omega
theorem or4a (a b : Nat) (ha : a < 8) (hb : b < 64) : bits .or .i32 ((a : Int) * 262144) ((b : Int) * 4096) = (a : Int) * 262144 + b * 4096 := by
  have := i32_or_shift a (b * 4096) 18 (by omega) (by omega) (by omega)
  rw [show ((a * 2 ^ 18 : Nat) : Int) = (a : Int) * 262144 by omega, show ((b * 4096 : Nat) : Int) = (b : Int) * 4096 by omega] at this
  rw [this]; omega
theorem or4b (a b c : Nat) (ha : a < 8) (hb : b < 64) (hc : c < 64) : bits .or .i32 ((a : Int) * 262144 + (b : Int) * 4096) ((c : Int) * 64) = (a : Int) * 262144 + b * 4096 + c * 64 := by
  have := i32_or_shift (a * 64 + b) (c * 64) 12 (by omega) (by omega) (by omega)
  rw [show (((a * 64 + b) * 2 ^ 12 : Nat) : Int) = (a : Int) * 262144 + (b : Int) * 4096 by omega, show ((c * 64 : Nat) : Int) = (c : Int) * 64 by omega] at this
  rw [this]; omega
theorem or4c (a b c d : Nat) (ha : a < 8) (hb : b < 64) (hc : c < 64) (hd : d < 64) : bits .or .i32 ((a : Int) * 262144 + (b : Int) * 4096 + (c : Int) * 64) (d : Int) = (a : Int) * 262144 + b * 4096 + c * 64 + d := by
  have := i32_or_shift ((a * 64 + b) * 64 + c) d 6 (by omega) (by omega) (by omega)
  rw [show ((((a * 64 + b) * 64 + c) * 2 ^ 6 : Nat) : Int) = (a : Int) * 262144 + (b : Int) * 4096 + (c : Int) * 64 by omega] at this
  rw [this]; omega
set_option maxHeartbeats 2000000 in
theorem a (s : ByteArray) (i b0 : Nat) (w : World) (h : i < s.size) (hs : s.size ≤ 2097152) (e0 : (s[i]'h).toNat = b0) (g0 : b0 < 128) :
    Calls Tryd.prog 10 #[.string s, .int .i64 i] w (Dec w (b0) 1) := by
  go_enter Tryd.func10, Tryd.ntmps10
  go_wp2
  go_ret2
  exact ⟨rfl, 0, rfl⟩
set_option maxHeartbeats 2000000 in
theorem lo (s : ByteArray) (i b0 : Nat) (w : World) (h : i < s.size) (hs : s.size ≤ 2097152) (e0 : (s[i]'h).toNat = b0) (g0 : 128 ≤ b0) (g1 : b0 < 194) :
    Calls Tryd.prog 10 #[.string s, .int .i64 i] w (Dec w (65533) 1) := by
  go_enter Tryd.func10, Tryd.ntmps10
  go_wp2
  go_ret2
  exact ⟨rfl, 0, rfl⟩
set_option maxHeartbeats 2000000 in
theorem hi (s : ByteArray) (i b0 : Nat) (w : World) (h : i < s.size) (hs : s.size ≤ 2097152) (e0 : (s[i]'h).toNat = b0) (g0 : 244 < b0) (g1 : b0 < 256) :
    Calls Tryd.prog 10 #[.string s, .int .i64 i] w (Dec w (65533) 1) := by
  go_enter Tryd.func10, Tryd.ntmps10
  go_wp2
  go_ret2
  exact ⟨rfl, 0, rfl⟩
set_option maxHeartbeats 2000000 in
theorem two_short (s : ByteArray) (i b0 : Nat) (w : World) (h : i < s.size) (hs : s.size ≤ 2097152) (e0 : (s[i]'h).toNat = b0) (g0 : 194 ≤ b0) (g1 : b0 ≤ 223) (g2 : s.size ≤ i + 1) :
    Calls Tryd.prog 10 #[.string s, .int .i64 i] w (Dec w (65533) 1) := by
  go_enter Tryd.func10, Tryd.ntmps10
  go_wp2
  go_ret2
  exact ⟨rfl, 0, rfl⟩
set_option maxHeartbeats 2000000 in
theorem two_lo (s : ByteArray) (i b0 b1 : Nat) (w : World) (h : i < s.size) (h1 : i + 1 < s.size) (hs : s.size ≤ 2097152) (e0 : (s[i]'h).toNat = b0) (e1 : (s[i + 1]'h1).toNat = b1) (g0 : 194 ≤ b0) (g1 : b0 ≤ 223) (g2 : b1 < 128) :
    Calls Tryd.prog 10 #[.string s, .int .i64 i] w (Dec w (65533) 1) := by
  go_enter Tryd.func10, Tryd.ntmps10
  go_wp2
  go_ret2
  exact ⟨rfl, 0, rfl⟩
set_option maxHeartbeats 2000000 in
theorem two_hi (s : ByteArray) (i b0 b1 : Nat) (w : World) (h : i < s.size) (h1 : i + 1 < s.size) (hs : s.size ≤ 2097152) (e0 : (s[i]'h).toNat = b0) (e1 : (s[i + 1]'h1).toNat = b1) (g0 : 194 ≤ b0) (g1 : b0 ≤ 223) (g2 : 191 < b1) (g3 : b1 < 256) :
    Calls Tryd.prog 10 #[.string s, .int .i64 i] w (Dec w (65533) 1) := by
  go_enter Tryd.func10, Tryd.ntmps10
  go_wp2
  go_ret2
  exact ⟨rfl, 0, rfl⟩
set_option maxHeartbeats 2000000 in
theorem two (s : ByteArray) (i b0 b1 : Nat) (w : World) (h : i < s.size) (h1 : i + 1 < s.size) (hs : s.size ≤ 2097152) (e0 : (s[i]'h).toNat = b0) (e1 : (s[i + 1]'h1).toNat = b1) (g0 : 194 ≤ b0) (g1 : b0 ≤ 223) (g2 : 128 ≤ b1) (g3 : b1 ≤ 191) :
    Calls Tryd.prog 10 #[.string s, .int .i64 i] w (Dec w ((b0 % 32 : Nat) * 64 + (b1 % 64 : Nat)) 2) := by
  have m0 := u8_31 b0 (by omega)
  have c0 := Nat.mod_lt b0 (show 0 < 32 by omega)
  have m1 := u8_63 b1 (by omega)
  have c1 := Nat.mod_lt b1 (show 0 < 64 by omega)
  generalize b0 % 32 = v0 at m0 c0 ⊢
  generalize b1 % 64 = v1 at m1 c1 ⊢
  have o1 := or2 v0 v1 c0 c1
  go_enter Tryd.func10, Tryd.ntmps10
  go_wp2
  go_ret2
  exact ⟨rfl, 0, rfl⟩
set_option maxHeartbeats 2000000 in
theorem e0_short (s : ByteArray) (i b0 : Nat) (w : World) (h : i < s.size) (hs : s.size ≤ 2097152) (e0 : (s[i]'h).toNat = b0) (g0 : 224 ≤ b0) (g1 : b0 ≤ 224) (g2 : s.size ≤ i + 2) :
    Calls Tryd.prog 10 #[.string s, .int .i64 i] w (Dec w (65533) 1) := by
  have t0 : ((b0 : Int) == 224) = true := by simp; omega
  have t1 : ((b0 : Int) == 237) = false := by simp; omega
  go_enter Tryd.func10, Tryd.ntmps10
  go_wp2
  go_ret2
  exact ⟨rfl, 0, rfl⟩
set_option maxHeartbeats 2000000 in
theorem e0_lo (s : ByteArray) (i b0 b1 : Nat) (w : World) (h : i < s.size) (h1 : i + 1 < s.size) (hs : s.size ≤ 2097152) (e0 : (s[i]'h).toNat = b0) (e1 : (s[i + 1]'h1).toNat = b1) (g0 : 224 ≤ b0) (g1 : b0 ≤ 224) (g2 : i + 2 < s.size) (g3 : b1 < 160) :
    Calls Tryd.prog 10 #[.string s, .int .i64 i] w (Dec w (65533) 1) := by
  have t0 : ((b0 : Int) == 224) = true := by simp; omega
  have t1 : ((b0 : Int) == 237) = false := by simp; omega
  go_enter Tryd.func10, Tryd.ntmps10
  go_wp2
  go_ret2
  exact ⟨rfl, 0, rfl⟩
set_option maxHeartbeats 2000000 in
theorem e0_hi (s : ByteArray) (i b0 b1 : Nat) (w : World) (h : i < s.size) (h1 : i + 1 < s.size) (hs : s.size ≤ 2097152) (e0 : (s[i]'h).toNat = b0) (e1 : (s[i + 1]'h1).toNat = b1) (g0 : 224 ≤ b0) (g1 : b0 ≤ 224) (g2 : i + 2 < s.size) (g3 : 191 < b1) (g4 : b1 < 256) :
    Calls Tryd.prog 10 #[.string s, .int .i64 i] w (Dec w (65533) 1) := by
  have t0 : ((b0 : Int) == 224) = true := by simp; omega
  have t1 : ((b0 : Int) == 237) = false := by simp; omega
  go_enter Tryd.func10, Tryd.ntmps10
  go_wp2
  go_ret2
  exact ⟨rfl, 0, rfl⟩
set_option maxHeartbeats 2000000 in
theorem e0_lo2 (s : ByteArray) (i b0 b1 b2 : Nat) (w : World) (h : i < s.size) (h1 : i + 1 < s.size) (h2 : i + 2 < s.size) (hs : s.size ≤ 2097152) (e0 : (s[i]'h).toNat = b0) (e1 : (s[i + 1]'h1).toNat = b1) (e2 : (s[i + 2]'h2).toNat = b2) (g0 : 224 ≤ b0) (g1 : b0 ≤ 224) (g2 : 160 ≤ b1) (g3 : b1 ≤ 191) (g4 : b2 < 128) :
    Calls Tryd.prog 10 #[.string s, .int .i64 i] w (Dec w (65533) 1) := by
  have t0 : ((b0 : Int) == 224) = true := by simp; omega
  have t1 : ((b0 : Int) == 237) = false := by simp; omega
  go_enter Tryd.func10, Tryd.ntmps10
  go_wp2
  go_ret2
  exact ⟨rfl, 0, rfl⟩
set_option maxHeartbeats 2000000 in
theorem e0_hi2 (s : ByteArray) (i b0 b1 b2 : Nat) (w : World) (h : i < s.size) (h1 : i + 1 < s.size) (h2 : i + 2 < s.size) (hs : s.size ≤ 2097152) (e0 : (s[i]'h).toNat = b0) (e1 : (s[i + 1]'h1).toNat = b1) (e2 : (s[i + 2]'h2).toNat = b2) (g0 : 224 ≤ b0) (g1 : b0 ≤ 224) (g2 : 160 ≤ b1) (g3 : b1 ≤ 191) (g4 : 191 < b2) (g5 : b2 < 256) :
    Calls Tryd.prog 10 #[.string s, .int .i64 i] w (Dec w (65533) 1) := by
  have t0 : ((b0 : Int) == 224) = true := by simp; omega
  have t1 : ((b0 : Int) == 237) = false := by simp; omega
  go_enter Tryd.func10, Tryd.ntmps10
  go_wp2
  go_ret2
  exact ⟨rfl, 0, rfl⟩
set_option maxHeartbeats 2000000 in
theorem e0 (s : ByteArray) (i b0 b1 b2 : Nat) (w : World) (h : i < s.size) (h1 : i + 1 < s.size) (h2 : i + 2 < s.size) (hs : s.size ≤ 2097152) (e0 : (s[i]'h).toNat = b0) (e1 : (s[i + 1]'h1).toNat = b1) (e2 : (s[i + 2]'h2).toNat = b2) (g0 : 224 ≤ b0) (g1 : b0 ≤ 224) (g2 : 160 ≤ b1) (g3 : b1 ≤ 191) (g4 : 128 ≤ b2) (g5 : b2 ≤ 191) :
    Calls Tryd.prog 10 #[.string s, .int .i64 i] w (Dec w ((b0 % 16 : Nat) * 4096 + (b1 % 64 : Nat) * 64 + (b2 % 64 : Nat)) 3) := by
  have m0 := u8_15 b0 (by omega)
  have c0 := Nat.mod_lt b0 (show 0 < 16 by omega)
  have m1 := u8_63 b1 (by omega)
  have c1 := Nat.mod_lt b1 (show 0 < 64 by omega)
  have m2 := u8_63 b2 (by omega)
  have c2 := Nat.mod_lt b2 (show 0 < 64 by omega)
  have t0 : ((b0 : Int) == 224) = true := by simp; omega
  have t1 : ((b0 : Int) == 237) = false := by simp; omega
  generalize b0 % 16 = v0 at m0 c0 ⊢
  generalize b1 % 64 = v1 at m1 c1 ⊢
  generalize b2 % 64 = v2 at m2 c2 ⊢
  have o1 := or3a v0 v1 c0 c1
  have o2 := or3b v0 v1 v2 c0 c1 c2
  have i1 : IntKind.i64.wrap (↑i + 1) = ↑i + 1 := IntWalk.i64_in _ (by omega)
  have j1 : (0 : Int) ≤ ↑i + 1 := by omega
  have k1 : (↑i + 1 : Int).toNat = i + 1 := by omega
  have i2 : IntKind.i64.wrap (↑i + 2) = ↑i + 2 := IntWalk.i64_in _ (by omega)
  have j2 : (0 : Int) ≤ ↑i + 2 := by omega
  have k2 : (↑i + 2 : Int).toNat = i + 2 := by omega
  go_enter Tryd.func10, Tryd.ntmps10
  go_wp2
  go_quiet (fail)
  go_wp2
  go_ret2
  exact ⟨rfl, _, rfl⟩
set_option maxHeartbeats 2000000 in
theorem ed_short (s : ByteArray) (i b0 : Nat) (w : World) (h : i < s.size) (hs : s.size ≤ 2097152) (e0 : (s[i]'h).toNat = b0) (g0 : 237 ≤ b0) (g1 : b0 ≤ 237) (g2 : s.size ≤ i + 2) :
    Calls Tryd.prog 10 #[.string s, .int .i64 i] w (Dec w (65533) 1) := by
  have t0 : ((b0 : Int) == 224) = false := by simp; omega
  have t1 : ((b0 : Int) == 237) = true := by simp; omega
  go_enter Tryd.func10, Tryd.ntmps10
  go_wp2
  go_ret2
  exact ⟨rfl, 0, rfl⟩
set_option maxHeartbeats 2000000 in
theorem ed_lo (s : ByteArray) (i b0 b1 : Nat) (w : World) (h : i < s.size) (h1 : i + 1 < s.size) (hs : s.size ≤ 2097152) (e0 : (s[i]'h).toNat = b0) (e1 : (s[i + 1]'h1).toNat = b1) (g0 : 237 ≤ b0) (g1 : b0 ≤ 237) (g2 : i + 2 < s.size) (g3 : b1 < 128) :
    Calls Tryd.prog 10 #[.string s, .int .i64 i] w (Dec w (65533) 1) := by
  have t0 : ((b0 : Int) == 224) = false := by simp; omega
  have t1 : ((b0 : Int) == 237) = true := by simp; omega
  go_enter Tryd.func10, Tryd.ntmps10
  go_wp2
  go_ret2
  exact ⟨rfl, 0, rfl⟩
set_option maxHeartbeats 2000000 in
theorem ed_hi (s : ByteArray) (i b0 b1 : Nat) (w : World) (h : i < s.size) (h1 : i + 1 < s.size) (hs : s.size ≤ 2097152) (e0 : (s[i]'h).toNat = b0) (e1 : (s[i + 1]'h1).toNat = b1) (g0 : 237 ≤ b0) (g1 : b0 ≤ 237) (g2 : i + 2 < s.size) (g3 : 159 < b1) (g4 : b1 < 256) :
    Calls Tryd.prog 10 #[.string s, .int .i64 i] w (Dec w (65533) 1) := by
  have t0 : ((b0 : Int) == 224) = false := by simp; omega
  have t1 : ((b0 : Int) == 237) = true := by simp; omega
  go_enter Tryd.func10, Tryd.ntmps10
  go_wp2
  go_ret2
  exact ⟨rfl, 0, rfl⟩
set_option maxHeartbeats 2000000 in
theorem ed_lo2 (s : ByteArray) (i b0 b1 b2 : Nat) (w : World) (h : i < s.size) (h1 : i + 1 < s.size) (h2 : i + 2 < s.size) (hs : s.size ≤ 2097152) (e0 : (s[i]'h).toNat = b0) (e1 : (s[i + 1]'h1).toNat = b1) (e2 : (s[i + 2]'h2).toNat = b2) (g0 : 237 ≤ b0) (g1 : b0 ≤ 237) (g2 : 128 ≤ b1) (g3 : b1 ≤ 159) (g4 : b2 < 128) :
    Calls Tryd.prog 10 #[.string s, .int .i64 i] w (Dec w (65533) 1) := by
  have t0 : ((b0 : Int) == 224) = false := by simp; omega
  have t1 : ((b0 : Int) == 237) = true := by simp; omega
  go_enter Tryd.func10, Tryd.ntmps10
  go_wp2
  go_ret2
  exact ⟨rfl, 0, rfl⟩
set_option maxHeartbeats 2000000 in
theorem ed_hi2 (s : ByteArray) (i b0 b1 b2 : Nat) (w : World) (h : i < s.size) (h1 : i + 1 < s.size) (h2 : i + 2 < s.size) (hs : s.size ≤ 2097152) (e0 : (s[i]'h).toNat = b0) (e1 : (s[i + 1]'h1).toNat = b1) (e2 : (s[i + 2]'h2).toNat = b2) (g0 : 237 ≤ b0) (g1 : b0 ≤ 237) (g2 : 128 ≤ b1) (g3 : b1 ≤ 159) (g4 : 191 < b2) (g5 : b2 < 256) :
    Calls Tryd.prog 10 #[.string s, .int .i64 i] w (Dec w (65533) 1) := by
  have t0 : ((b0 : Int) == 224) = false := by simp; omega
  have t1 : ((b0 : Int) == 237) = true := by simp; omega
  go_enter Tryd.func10, Tryd.ntmps10
  go_wp2
  go_ret2
  exact ⟨rfl, 0, rfl⟩
set_option maxHeartbeats 2000000 in
theorem ed (s : ByteArray) (i b0 b1 b2 : Nat) (w : World) (h : i < s.size) (h1 : i + 1 < s.size) (h2 : i + 2 < s.size) (hs : s.size ≤ 2097152) (e0 : (s[i]'h).toNat = b0) (e1 : (s[i + 1]'h1).toNat = b1) (e2 : (s[i + 2]'h2).toNat = b2) (g0 : 237 ≤ b0) (g1 : b0 ≤ 237) (g2 : 128 ≤ b1) (g3 : b1 ≤ 159) (g4 : 128 ≤ b2) (g5 : b2 ≤ 191) :
    Calls Tryd.prog 10 #[.string s, .int .i64 i] w (Dec w ((b0 % 16 : Nat) * 4096 + (b1 % 64 : Nat) * 64 + (b2 % 64 : Nat)) 3) := by
  have m0 := u8_15 b0 (by omega)
  have c0 := Nat.mod_lt b0 (show 0 < 16 by omega)
  have m1 := u8_63 b1 (by omega)
  have c1 := Nat.mod_lt b1 (show 0 < 64 by omega)
  have m2 := u8_63 b2 (by omega)
  have c2 := Nat.mod_lt b2 (show 0 < 64 by omega)
  have t0 : ((b0 : Int) == 224) = false := by simp; omega
  have t1 : ((b0 : Int) == 237) = true := by simp; omega
  generalize b0 % 16 = v0 at m0 c0 ⊢
  generalize b1 % 64 = v1 at m1 c1 ⊢
  generalize b2 % 64 = v2 at m2 c2 ⊢
  have o1 := or3a v0 v1 c0 c1
  have o2 := or3b v0 v1 v2 c0 c1 c2
  have i1 : IntKind.i64.wrap (↑i + 1) = ↑i + 1 := IntWalk.i64_in _ (by omega)
  have j1 : (0 : Int) ≤ ↑i + 1 := by omega
  have k1 : (↑i + 1 : Int).toNat = i + 1 := by omega
  have i2 : IntKind.i64.wrap (↑i + 2) = ↑i + 2 := IntWalk.i64_in _ (by omega)
  have j2 : (0 : Int) ≤ ↑i + 2 := by omega
  have k2 : (↑i + 2 : Int).toNat = i + 2 := by omega
  go_enter Tryd.func10, Tryd.ntmps10
  go_wp2
  go_quiet (fail)
  go_wp2
  go_ret2
  exact ⟨rfl, _, rfl⟩
set_option maxHeartbeats 2000000 in
theorem ex_short (s : ByteArray) (i b0 : Nat) (w : World) (h : i < s.size) (hs : s.size ≤ 2097152) (e0 : (s[i]'h).toNat = b0) (g0 : 225 ≤ b0) (g1 : b0 < 240) (g2 : ¬ b0 = 237) (g3 : s.size ≤ i + 2) :
    Calls Tryd.prog 10 #[.string s, .int .i64 i] w (Dec w (65533) 1) := by
  have t0 : ((b0 : Int) == 224) = false := by simp; omega
  have t1 : ((b0 : Int) == 237) = false := by simp; omega
  go_enter Tryd.func10, Tryd.ntmps10
  go_wp2
  go_ret2
  exact ⟨rfl, 0, rfl⟩
set_option maxHeartbeats 2000000 in
theorem ex_lo (s : ByteArray) (i b0 b1 : Nat) (w : World) (h : i < s.size) (h1 : i + 1 < s.size) (hs : s.size ≤ 2097152) (e0 : (s[i]'h).toNat = b0) (e1 : (s[i + 1]'h1).toNat = b1) (g0 : 225 ≤ b0) (g1 : b0 < 240) (g2 : ¬ b0 = 237) (g3 : i + 2 < s.size) (g4 : b1 < 128) :
    Calls Tryd.prog 10 #[.string s, .int .i64 i] w (Dec w (65533) 1) := by
  have t0 : ((b0 : Int) == 224) = false := by simp; omega
  have t1 : ((b0 : Int) == 237) = false := by simp; omega
  go_enter Tryd.func10, Tryd.ntmps10
  go_wp2
  go_ret2
  exact ⟨rfl, 0, rfl⟩
set_option maxHeartbeats 2000000 in
theorem ex_hi (s : ByteArray) (i b0 b1 : Nat) (w : World) (h : i < s.size) (h1 : i + 1 < s.size) (hs : s.size ≤ 2097152) (e0 : (s[i]'h).toNat = b0) (e1 : (s[i + 1]'h1).toNat = b1) (g0 : 225 ≤ b0) (g1 : b0 < 240) (g2 : ¬ b0 = 237) (g3 : i + 2 < s.size) (g4 : 191 < b1) (g5 : b1 < 256) :
    Calls Tryd.prog 10 #[.string s, .int .i64 i] w (Dec w (65533) 1) := by
  have t0 : ((b0 : Int) == 224) = false := by simp; omega
  have t1 : ((b0 : Int) == 237) = false := by simp; omega
  go_enter Tryd.func10, Tryd.ntmps10
  go_wp2
  go_ret2
  exact ⟨rfl, 0, rfl⟩
set_option maxHeartbeats 2000000 in
theorem ex_lo2 (s : ByteArray) (i b0 b1 b2 : Nat) (w : World) (h : i < s.size) (h1 : i + 1 < s.size) (h2 : i + 2 < s.size) (hs : s.size ≤ 2097152) (e0 : (s[i]'h).toNat = b0) (e1 : (s[i + 1]'h1).toNat = b1) (e2 : (s[i + 2]'h2).toNat = b2) (g0 : 225 ≤ b0) (g1 : b0 < 240) (g2 : ¬ b0 = 237) (g3 : 128 ≤ b1) (g4 : b1 ≤ 191) (g5 : b2 < 128) :
    Calls Tryd.prog 10 #[.string s, .int .i64 i] w (Dec w (65533) 1) := by
  have t0 : ((b0 : Int) == 224) = false := by simp; omega
  have t1 : ((b0 : Int) == 237) = false := by simp; omega
  go_enter Tryd.func10, Tryd.ntmps10
  go_wp2
  go_ret2
  exact ⟨rfl, 0, rfl⟩
set_option maxHeartbeats 2000000 in
theorem ex_hi2 (s : ByteArray) (i b0 b1 b2 : Nat) (w : World) (h : i < s.size) (h1 : i + 1 < s.size) (h2 : i + 2 < s.size) (hs : s.size ≤ 2097152) (e0 : (s[i]'h).toNat = b0) (e1 : (s[i + 1]'h1).toNat = b1) (e2 : (s[i + 2]'h2).toNat = b2) (g0 : 225 ≤ b0) (g1 : b0 < 240) (g2 : ¬ b0 = 237) (g3 : 128 ≤ b1) (g4 : b1 ≤ 191) (g5 : 191 < b2) (g6 : b2 < 256) :
    Calls Tryd.prog 10 #[.string s, .int .i64 i] w (Dec w (65533) 1) := by
  have t0 : ((b0 : Int) == 224) = false := by simp; omega
  have t1 : ((b0 : Int) == 237) = false := by simp; omega
  go_enter Tryd.func10, Tryd.ntmps10
  go_wp2
  go_ret2
  exact ⟨rfl, 0, rfl⟩
set_option maxHeartbeats 2000000 in
theorem ex (s : ByteArray) (i b0 b1 b2 : Nat) (w : World) (h : i < s.size) (h1 : i + 1 < s.size) (h2 : i + 2 < s.size) (hs : s.size ≤ 2097152) (e0 : (s[i]'h).toNat = b0) (e1 : (s[i + 1]'h1).toNat = b1) (e2 : (s[i + 2]'h2).toNat = b2) (g0 : 225 ≤ b0) (g1 : b0 < 240) (g2 : ¬ b0 = 237) (g3 : 128 ≤ b1) (g4 : b1 ≤ 191) (g5 : 128 ≤ b2) (g6 : b2 ≤ 191) :
    Calls Tryd.prog 10 #[.string s, .int .i64 i] w (Dec w ((b0 % 16 : Nat) * 4096 + (b1 % 64 : Nat) * 64 + (b2 % 64 : Nat)) 3) := by
  have m0 := u8_15 b0 (by omega)
  have c0 := Nat.mod_lt b0 (show 0 < 16 by omega)
  have m1 := u8_63 b1 (by omega)
  have c1 := Nat.mod_lt b1 (show 0 < 64 by omega)
  have m2 := u8_63 b2 (by omega)
  have c2 := Nat.mod_lt b2 (show 0 < 64 by omega)
  have t0 : ((b0 : Int) == 224) = false := by simp; omega
  have t1 : ((b0 : Int) == 237) = false := by simp; omega
  generalize b0 % 16 = v0 at m0 c0 ⊢
  generalize b1 % 64 = v1 at m1 c1 ⊢
  generalize b2 % 64 = v2 at m2 c2 ⊢
  have o1 := or3a v0 v1 c0 c1
  have o2 := or3b v0 v1 v2 c0 c1 c2
  have i1 : IntKind.i64.wrap (↑i + 1) = ↑i + 1 := IntWalk.i64_in _ (by omega)
  have j1 : (0 : Int) ≤ ↑i + 1 := by omega
  have k1 : (↑i + 1 : Int).toNat = i + 1 := by omega
  have i2 : IntKind.i64.wrap (↑i + 2) = ↑i + 2 := IntWalk.i64_in _ (by omega)
  have j2 : (0 : Int) ≤ ↑i + 2 := by omega
  have k2 : (↑i + 2 : Int).toNat = i + 2 := by omega
  go_enter Tryd.func10, Tryd.ntmps10
  go_wp2
  go_quiet (fail)
  go_wp2
  go_ret2
  exact ⟨rfl, _, rfl⟩
set_option maxHeartbeats 2000000 in
theorem f0_short (s : ByteArray) (i b0 : Nat) (w : World) (h : i < s.size) (hs : s.size ≤ 2097152) (e0 : (s[i]'h).toNat = b0) (g0 : 240 ≤ b0) (g1 : b0 ≤ 240) (g2 : s.size ≤ i + 3) :
    Calls Tryd.prog 10 #[.string s, .int .i64 i] w (Dec w (65533) 1) := by
  have t0 : ((b0 : Int) == 240) = true := by simp; omega
  have t1 : ((b0 : Int) == 244) = false := by simp; omega
  go_enter Tryd.func10, Tryd.ntmps10
  go_wp2
  go_ret2
  exact ⟨rfl, 0, rfl⟩
set_option maxHeartbeats 2000000 in
theorem f0_lo (s : ByteArray) (i b0 b1 : Nat) (w : World) (h : i < s.size) (h1 : i + 1 < s.size) (hs : s.size ≤ 2097152) (e0 : (s[i]'h).toNat = b0) (e1 : (s[i + 1]'h1).toNat = b1) (g0 : 240 ≤ b0) (g1 : b0 ≤ 240) (g2 : i + 3 < s.size) (g3 : b1 < 144) :
    Calls Tryd.prog 10 #[.string s, .int .i64 i] w (Dec w (65533) 1) := by
  have t0 : ((b0 : Int) == 240) = true := by simp; omega
  have t1 : ((b0 : Int) == 244) = false := by simp; omega
  go_enter Tryd.func10, Tryd.ntmps10
  go_wp2
  go_ret2
  exact ⟨rfl, 0, rfl⟩
set_option maxHeartbeats 2000000 in
theorem f0_hi (s : ByteArray) (i b0 b1 : Nat) (w : World) (h : i < s.size) (h1 : i + 1 < s.size) (hs : s.size ≤ 2097152) (e0 : (s[i]'h).toNat = b0) (e1 : (s[i + 1]'h1).toNat = b1) (g0 : 240 ≤ b0) (g1 : b0 ≤ 240) (g2 : i + 3 < s.size) (g3 : 191 < b1) (g4 : b1 < 256) :
    Calls Tryd.prog 10 #[.string s, .int .i64 i] w (Dec w (65533) 1) := by
  have t0 : ((b0 : Int) == 240) = true := by simp; omega
  have t1 : ((b0 : Int) == 244) = false := by simp; omega
  go_enter Tryd.func10, Tryd.ntmps10
  go_wp2
  go_ret2
  exact ⟨rfl, 0, rfl⟩
set_option maxHeartbeats 2000000 in
theorem f0_lo2 (s : ByteArray) (i b0 b1 b2 : Nat) (w : World) (h : i < s.size) (h1 : i + 1 < s.size) (h2 : i + 2 < s.size) (hs : s.size ≤ 2097152) (e0 : (s[i]'h).toNat = b0) (e1 : (s[i + 1]'h1).toNat = b1) (e2 : (s[i + 2]'h2).toNat = b2) (g0 : 240 ≤ b0) (g1 : b0 ≤ 240) (g2 : i + 3 < s.size) (g3 : 144 ≤ b1) (g4 : b1 ≤ 191) (g5 : b2 < 128) :
    Calls Tryd.prog 10 #[.string s, .int .i64 i] w (Dec w (65533) 1) := by
  have t0 : ((b0 : Int) == 240) = true := by simp; omega
  have t1 : ((b0 : Int) == 244) = false := by simp; omega
  go_enter Tryd.func10, Tryd.ntmps10
  go_wp2
  go_ret2
  exact ⟨rfl, 0, rfl⟩
set_option maxHeartbeats 2000000 in
theorem f0_hi2 (s : ByteArray) (i b0 b1 b2 : Nat) (w : World) (h : i < s.size) (h1 : i + 1 < s.size) (h2 : i + 2 < s.size) (hs : s.size ≤ 2097152) (e0 : (s[i]'h).toNat = b0) (e1 : (s[i + 1]'h1).toNat = b1) (e2 : (s[i + 2]'h2).toNat = b2) (g0 : 240 ≤ b0) (g1 : b0 ≤ 240) (g2 : i + 3 < s.size) (g3 : 144 ≤ b1) (g4 : b1 ≤ 191) (g5 : 191 < b2) (g6 : b2 < 256) :
    Calls Tryd.prog 10 #[.string s, .int .i64 i] w (Dec w (65533) 1) := by
  have t0 : ((b0 : Int) == 240) = true := by simp; omega
  have t1 : ((b0 : Int) == 244) = false := by simp; omega
  go_enter Tryd.func10, Tryd.ntmps10
  go_wp2
  go_ret2
  exact ⟨rfl, 0, rfl⟩
set_option maxHeartbeats 2000000 in
theorem f0_lo3 (s : ByteArray) (i b0 b1 b2 b3 : Nat) (w : World) (h : i < s.size) (h1 : i + 1 < s.size) (h2 : i + 2 < s.size) (h3 : i + 3 < s.size) (hs : s.size ≤ 2097152) (e0 : (s[i]'h).toNat = b0) (e1 : (s[i + 1]'h1).toNat = b1) (e2 : (s[i + 2]'h2).toNat = b2) (e3 : (s[i + 3]'h3).toNat = b3) (g0 : 240 ≤ b0) (g1 : b0 ≤ 240) (g2 : 144 ≤ b1) (g3 : b1 ≤ 191) (g4 : 128 ≤ b2) (g5 : b2 ≤ 191) (g6 : b3 < 128) :
    Calls Tryd.prog 10 #[.string s, .int .i64 i] w (Dec w (65533) 1) := by
  have t0 : ((b0 : Int) == 240) = true := by simp; omega
  have t1 : ((b0 : Int) == 244) = false := by simp; omega
  go_enter Tryd.func10, Tryd.ntmps10
  go_wp2
  go_ret2
  exact ⟨rfl, 0, rfl⟩
set_option maxHeartbeats 2000000 in
theorem f0_hi3 (s : ByteArray) (i b0 b1 b2 b3 : Nat) (w : World) (h : i < s.size) (h1 : i + 1 < s.size) (h2 : i + 2 < s.size) (h3 : i + 3 < s.size) (hs : s.size ≤ 2097152) (e0 : (s[i]'h).toNat = b0) (e1 : (s[i + 1]'h1).toNat = b1) (e2 : (s[i + 2]'h2).toNat = b2) (e3 : (s[i + 3]'h3).toNat = b3) (g0 : 240 ≤ b0) (g1 : b0 ≤ 240) (g2 : 144 ≤ b1) (g3 : b1 ≤ 191) (g4 : 128 ≤ b2) (g5 : b2 ≤ 191) (g6 : 191 < b3) (g7 : b3 < 256) :
    Calls Tryd.prog 10 #[.string s, .int .i64 i] w (Dec w (65533) 1) := by
  have t0 : ((b0 : Int) == 240) = true := by simp; omega
  have t1 : ((b0 : Int) == 244) = false := by simp; omega
  go_enter Tryd.func10, Tryd.ntmps10
  go_wp2
  go_ret2
  exact ⟨rfl, 0, rfl⟩
set_option maxHeartbeats 2000000 in
theorem f0 (s : ByteArray) (i b0 b1 b2 b3 : Nat) (w : World) (h : i < s.size) (h1 : i + 1 < s.size) (h2 : i + 2 < s.size) (h3 : i + 3 < s.size) (hs : s.size ≤ 2097152) (e0 : (s[i]'h).toNat = b0) (e1 : (s[i + 1]'h1).toNat = b1) (e2 : (s[i + 2]'h2).toNat = b2) (e3 : (s[i + 3]'h3).toNat = b3) (g0 : 240 ≤ b0) (g1 : b0 ≤ 240) (g2 : 144 ≤ b1) (g3 : b1 ≤ 191) (g4 : 128 ≤ b2) (g5 : b2 ≤ 191) (g6 : 128 ≤ b3) (g7 : b3 ≤ 191) :
    Calls Tryd.prog 10 #[.string s, .int .i64 i] w (Dec w ((b0 % 8 : Nat) * 262144 + (b1 % 64 : Nat) * 4096 + (b2 % 64 : Nat) * 64 + (b3 % 64 : Nat)) 4) := by
  have m0 := u8_7 b0 (by omega)
  have c0 := Nat.mod_lt b0 (show 0 < 8 by omega)
  have m1 := u8_63 b1 (by omega)
  have c1 := Nat.mod_lt b1 (show 0 < 64 by omega)
  have m2 := u8_63 b2 (by omega)
  have c2 := Nat.mod_lt b2 (show 0 < 64 by omega)
  have m3 := u8_63 b3 (by omega)
  have c3 := Nat.mod_lt b3 (show 0 < 64 by omega)
  have t0 : ((b0 : Int) == 240) = true := by simp; omega
  have t1 : ((b0 : Int) == 244) = false := by simp; omega
  generalize b0 % 8 = v0 at m0 c0 ⊢
  generalize b1 % 64 = v1 at m1 c1 ⊢
  generalize b2 % 64 = v2 at m2 c2 ⊢
  generalize b3 % 64 = v3 at m3 c3 ⊢
  have o1 := or4a v0 v1 c0 c1
  have o2 := or4b v0 v1 v2 c0 c1 c2
  have o3 := or4c v0 v1 v2 v3 c0 c1 c2 c3
  have i1 : IntKind.i64.wrap (↑i + 1) = ↑i + 1 := IntWalk.i64_in _ (by omega)
  have j1 : (0 : Int) ≤ ↑i + 1 := by omega
  have k1 : (↑i + 1 : Int).toNat = i + 1 := by omega
  have i2 : IntKind.i64.wrap (↑i + 2) = ↑i + 2 := IntWalk.i64_in _ (by omega)
  have j2 : (0 : Int) ≤ ↑i + 2 := by omega
  have k2 : (↑i + 2 : Int).toNat = i + 2 := by omega
  have i3 : IntKind.i64.wrap (↑i + 3) = ↑i + 3 := IntWalk.i64_in _ (by omega)
  have j3 : (0 : Int) ≤ ↑i + 3 := by omega
  have k3 : (↑i + 3 : Int).toNat = i + 3 := by omega
  go_enter Tryd.func10, Tryd.ntmps10
  go_wp2
  go_quiet (fail)
  go_wp2
  go_ret2
  exact ⟨rfl, _, rfl⟩
set_option maxHeartbeats 2000000 in
theorem f4_short (s : ByteArray) (i b0 : Nat) (w : World) (h : i < s.size) (hs : s.size ≤ 2097152) (e0 : (s[i]'h).toNat = b0) (g0 : 244 ≤ b0) (g1 : b0 ≤ 244) (g2 : s.size ≤ i + 3) :
    Calls Tryd.prog 10 #[.string s, .int .i64 i] w (Dec w (65533) 1) := by
  have t0 : ((b0 : Int) == 240) = false := by simp; omega
  have t1 : ((b0 : Int) == 244) = true := by simp; omega
  go_enter Tryd.func10, Tryd.ntmps10
  go_wp2
  go_ret2
  exact ⟨rfl, 0, rfl⟩
set_option maxHeartbeats 2000000 in
theorem f4_lo (s : ByteArray) (i b0 b1 : Nat) (w : World) (h : i < s.size) (h1 : i + 1 < s.size) (hs : s.size ≤ 2097152) (e0 : (s[i]'h).toNat = b0) (e1 : (s[i + 1]'h1).toNat = b1) (g0 : 244 ≤ b0) (g1 : b0 ≤ 244) (g2 : i + 3 < s.size) (g3 : b1 < 128) :
    Calls Tryd.prog 10 #[.string s, .int .i64 i] w (Dec w (65533) 1) := by
  have t0 : ((b0 : Int) == 240) = false := by simp; omega
  have t1 : ((b0 : Int) == 244) = true := by simp; omega
  go_enter Tryd.func10, Tryd.ntmps10
  go_wp2
  go_ret2
  exact ⟨rfl, 0, rfl⟩
set_option maxHeartbeats 2000000 in
theorem f4_hi (s : ByteArray) (i b0 b1 : Nat) (w : World) (h : i < s.size) (h1 : i + 1 < s.size) (hs : s.size ≤ 2097152) (e0 : (s[i]'h).toNat = b0) (e1 : (s[i + 1]'h1).toNat = b1) (g0 : 244 ≤ b0) (g1 : b0 ≤ 244) (g2 : i + 3 < s.size) (g3 : 143 < b1) (g4 : b1 < 256) :
    Calls Tryd.prog 10 #[.string s, .int .i64 i] w (Dec w (65533) 1) := by
  have t0 : ((b0 : Int) == 240) = false := by simp; omega
  have t1 : ((b0 : Int) == 244) = true := by simp; omega
  go_enter Tryd.func10, Tryd.ntmps10
  go_wp2
  go_ret2
  exact ⟨rfl, 0, rfl⟩
set_option maxHeartbeats 2000000 in
theorem f4_lo2 (s : ByteArray) (i b0 b1 b2 : Nat) (w : World) (h : i < s.size) (h1 : i + 1 < s.size) (h2 : i + 2 < s.size) (hs : s.size ≤ 2097152) (e0 : (s[i]'h).toNat = b0) (e1 : (s[i + 1]'h1).toNat = b1) (e2 : (s[i + 2]'h2).toNat = b2) (g0 : 244 ≤ b0) (g1 : b0 ≤ 244) (g2 : i + 3 < s.size) (g3 : 128 ≤ b1) (g4 : b1 ≤ 143) (g5 : b2 < 128) :
    Calls Tryd.prog 10 #[.string s, .int .i64 i] w (Dec w (65533) 1) := by
  have t0 : ((b0 : Int) == 240) = false := by simp; omega
  have t1 : ((b0 : Int) == 244) = true := by simp; omega
  go_enter Tryd.func10, Tryd.ntmps10
  go_wp2
  go_ret2
  exact ⟨rfl, 0, rfl⟩
set_option maxHeartbeats 2000000 in
theorem f4_hi2 (s : ByteArray) (i b0 b1 b2 : Nat) (w : World) (h : i < s.size) (h1 : i + 1 < s.size) (h2 : i + 2 < s.size) (hs : s.size ≤ 2097152) (e0 : (s[i]'h).toNat = b0) (e1 : (s[i + 1]'h1).toNat = b1) (e2 : (s[i + 2]'h2).toNat = b2) (g0 : 244 ≤ b0) (g1 : b0 ≤ 244) (g2 : i + 3 < s.size) (g3 : 128 ≤ b1) (g4 : b1 ≤ 143) (g5 : 191 < b2) (g6 : b2 < 256) :
    Calls Tryd.prog 10 #[.string s, .int .i64 i] w (Dec w (65533) 1) := by
  have t0 : ((b0 : Int) == 240) = false := by simp; omega
  have t1 : ((b0 : Int) == 244) = true := by simp; omega
  go_enter Tryd.func10, Tryd.ntmps10
  go_wp2
  go_ret2
  exact ⟨rfl, 0, rfl⟩
set_option maxHeartbeats 2000000 in
theorem f4_lo3 (s : ByteArray) (i b0 b1 b2 b3 : Nat) (w : World) (h : i < s.size) (h1 : i + 1 < s.size) (h2 : i + 2 < s.size) (h3 : i + 3 < s.size) (hs : s.size ≤ 2097152) (e0 : (s[i]'h).toNat = b0) (e1 : (s[i + 1]'h1).toNat = b1) (e2 : (s[i + 2]'h2).toNat = b2) (e3 : (s[i + 3]'h3).toNat = b3) (g0 : 244 ≤ b0) (g1 : b0 ≤ 244) (g2 : 128 ≤ b1) (g3 : b1 ≤ 143) (g4 : 128 ≤ b2) (g5 : b2 ≤ 191) (g6 : b3 < 128) :
    Calls Tryd.prog 10 #[.string s, .int .i64 i] w (Dec w (65533) 1) := by
  have t0 : ((b0 : Int) == 240) = false := by simp; omega
  have t1 : ((b0 : Int) == 244) = true := by simp; omega
  go_enter Tryd.func10, Tryd.ntmps10
  go_wp2
  go_ret2
  exact ⟨rfl, 0, rfl⟩
set_option maxHeartbeats 2000000 in
theorem f4_hi3 (s : ByteArray) (i b0 b1 b2 b3 : Nat) (w : World) (h : i < s.size) (h1 : i + 1 < s.size) (h2 : i + 2 < s.size) (h3 : i + 3 < s.size) (hs : s.size ≤ 2097152) (e0 : (s[i]'h).toNat = b0) (e1 : (s[i + 1]'h1).toNat = b1) (e2 : (s[i + 2]'h2).toNat = b2) (e3 : (s[i + 3]'h3).toNat = b3) (g0 : 244 ≤ b0) (g1 : b0 ≤ 244) (g2 : 128 ≤ b1) (g3 : b1 ≤ 143) (g4 : 128 ≤ b2) (g5 : b2 ≤ 191) (g6 : 191 < b3) (g7 : b3 < 256) :
    Calls Tryd.prog 10 #[.string s, .int .i64 i] w (Dec w (65533) 1) := by
  have t0 : ((b0 : Int) == 240) = false := by simp; omega
  have t1 : ((b0 : Int) == 244) = true := by simp; omega
  go_enter Tryd.func10, Tryd.ntmps10
  go_wp2
  go_ret2
  exact ⟨rfl, 0, rfl⟩
set_option maxHeartbeats 2000000 in
theorem f4 (s : ByteArray) (i b0 b1 b2 b3 : Nat) (w : World) (h : i < s.size) (h1 : i + 1 < s.size) (h2 : i + 2 < s.size) (h3 : i + 3 < s.size) (hs : s.size ≤ 2097152) (e0 : (s[i]'h).toNat = b0) (e1 : (s[i + 1]'h1).toNat = b1) (e2 : (s[i + 2]'h2).toNat = b2) (e3 : (s[i + 3]'h3).toNat = b3) (g0 : 244 ≤ b0) (g1 : b0 ≤ 244) (g2 : 128 ≤ b1) (g3 : b1 ≤ 143) (g4 : 128 ≤ b2) (g5 : b2 ≤ 191) (g6 : 128 ≤ b3) (g7 : b3 ≤ 191) :
    Calls Tryd.prog 10 #[.string s, .int .i64 i] w (Dec w ((b0 % 8 : Nat) * 262144 + (b1 % 64 : Nat) * 4096 + (b2 % 64 : Nat) * 64 + (b3 % 64 : Nat)) 4) := by
  have m0 := u8_7 b0 (by omega)
  have c0 := Nat.mod_lt b0 (show 0 < 8 by omega)
  have m1 := u8_63 b1 (by omega)
  have c1 := Nat.mod_lt b1 (show 0 < 64 by omega)
  have m2 := u8_63 b2 (by omega)
  have c2 := Nat.mod_lt b2 (show 0 < 64 by omega)
  have m3 := u8_63 b3 (by omega)
  have c3 := Nat.mod_lt b3 (show 0 < 64 by omega)
  have t0 : ((b0 : Int) == 240) = false := by simp; omega
  have t1 : ((b0 : Int) == 244) = true := by simp; omega
  generalize b0 % 8 = v0 at m0 c0 ⊢
  generalize b1 % 64 = v1 at m1 c1 ⊢
  generalize b2 % 64 = v2 at m2 c2 ⊢
  generalize b3 % 64 = v3 at m3 c3 ⊢
  have o1 := or4a v0 v1 c0 c1
  have o2 := or4b v0 v1 v2 c0 c1 c2
  have o3 := or4c v0 v1 v2 v3 c0 c1 c2 c3
  have i1 : IntKind.i64.wrap (↑i + 1) = ↑i + 1 := IntWalk.i64_in _ (by omega)
  have j1 : (0 : Int) ≤ ↑i + 1 := by omega
  have k1 : (↑i + 1 : Int).toNat = i + 1 := by omega
  have i2 : IntKind.i64.wrap (↑i + 2) = ↑i + 2 := IntWalk.i64_in _ (by omega)
  have j2 : (0 : Int) ≤ ↑i + 2 := by omega
  have k2 : (↑i + 2 : Int).toNat = i + 2 := by omega
  have i3 : IntKind.i64.wrap (↑i + 3) = ↑i + 3 := IntWalk.i64_in _ (by omega)
  have j3 : (0 : Int) ≤ ↑i + 3 := by omega
  have k3 : (↑i + 3 : Int).toNat = i + 3 := by omega
  go_enter Tryd.func10, Tryd.ntmps10
  go_wp2
  go_quiet (fail)
  go_wp2
  go_ret2
  exact ⟨rfl, _, rfl⟩
set_option maxHeartbeats 2000000 in
theorem fx_short (s : ByteArray) (i b0 : Nat) (w : World) (h : i < s.size) (hs : s.size ≤ 2097152) (e0 : (s[i]'h).toNat = b0) (g0 : 241 ≤ b0) (g1 : b0 < 244) (g2 : s.size ≤ i + 3) :
    Calls Tryd.prog 10 #[.string s, .int .i64 i] w (Dec w (65533) 1) := by
  have t0 : ((b0 : Int) == 240) = false := by simp; omega
  have t1 : ((b0 : Int) == 244) = false := by simp; omega
  go_enter Tryd.func10, Tryd.ntmps10
  go_wp2
  go_ret2
  exact ⟨rfl, 0, rfl⟩
set_option maxHeartbeats 2000000 in
theorem fx_lo (s : ByteArray) (i b0 b1 : Nat) (w : World) (h : i < s.size) (h1 : i + 1 < s.size) (hs : s.size ≤ 2097152) (e0 : (s[i]'h).toNat = b0) (e1 : (s[i + 1]'h1).toNat = b1) (g0 : 241 ≤ b0) (g1 : b0 < 244) (g2 : i + 3 < s.size) (g3 : b1 < 128) :
    Calls Tryd.prog 10 #[.string s, .int .i64 i] w (Dec w (65533) 1) := by
  have t0 : ((b0 : Int) == 240) = false := by simp; omega
  have t1 : ((b0 : Int) == 244) = false := by simp; omega
  go_enter Tryd.func10, Tryd.ntmps10
  go_wp2
  go_ret2
  exact ⟨rfl, 0, rfl⟩
set_option maxHeartbeats 2000000 in
theorem fx_hi (s : ByteArray) (i b0 b1 : Nat) (w : World) (h : i < s.size) (h1 : i + 1 < s.size) (hs : s.size ≤ 2097152) (e0 : (s[i]'h).toNat = b0) (e1 : (s[i + 1]'h1).toNat = b1) (g0 : 241 ≤ b0) (g1 : b0 < 244) (g2 : i + 3 < s.size) (g3 : 191 < b1) (g4 : b1 < 256) :
    Calls Tryd.prog 10 #[.string s, .int .i64 i] w (Dec w (65533) 1) := by
  have t0 : ((b0 : Int) == 240) = false := by simp; omega
  have t1 : ((b0 : Int) == 244) = false := by simp; omega
  go_enter Tryd.func10, Tryd.ntmps10
  go_wp2
  go_ret2
  exact ⟨rfl, 0, rfl⟩
set_option maxHeartbeats 2000000 in
theorem fx_lo2 (s : ByteArray) (i b0 b1 b2 : Nat) (w : World) (h : i < s.size) (h1 : i + 1 < s.size) (h2 : i + 2 < s.size) (hs : s.size ≤ 2097152) (e0 : (s[i]'h).toNat = b0) (e1 : (s[i + 1]'h1).toNat = b1) (e2 : (s[i + 2]'h2).toNat = b2) (g0 : 241 ≤ b0) (g1 : b0 < 244) (g2 : i + 3 < s.size) (g3 : 128 ≤ b1) (g4 : b1 ≤ 191) (g5 : b2 < 128) :
    Calls Tryd.prog 10 #[.string s, .int .i64 i] w (Dec w (65533) 1) := by
  have t0 : ((b0 : Int) == 240) = false := by simp; omega
  have t1 : ((b0 : Int) == 244) = false := by simp; omega
  go_enter Tryd.func10, Tryd.ntmps10
  go_wp2
  go_ret2
  exact ⟨rfl, 0, rfl⟩
set_option maxHeartbeats 2000000 in
theorem fx_hi2 (s : ByteArray) (i b0 b1 b2 : Nat) (w : World) (h : i < s.size) (h1 : i + 1 < s.size) (h2 : i + 2 < s.size) (hs : s.size ≤ 2097152) (e0 : (s[i]'h).toNat = b0) (e1 : (s[i + 1]'h1).toNat = b1) (e2 : (s[i + 2]'h2).toNat = b2) (g0 : 241 ≤ b0) (g1 : b0 < 244) (g2 : i + 3 < s.size) (g3 : 128 ≤ b1) (g4 : b1 ≤ 191) (g5 : 191 < b2) (g6 : b2 < 256) :
    Calls Tryd.prog 10 #[.string s, .int .i64 i] w (Dec w (65533) 1) := by
  have t0 : ((b0 : Int) == 240) = false := by simp; omega
  have t1 : ((b0 : Int) == 244) = false := by simp; omega
  go_enter Tryd.func10, Tryd.ntmps10
  go_wp2
  go_ret2
  exact ⟨rfl, 0, rfl⟩
set_option maxHeartbeats 2000000 in
theorem fx_lo3 (s : ByteArray) (i b0 b1 b2 b3 : Nat) (w : World) (h : i < s.size) (h1 : i + 1 < s.size) (h2 : i + 2 < s.size) (h3 : i + 3 < s.size) (hs : s.size ≤ 2097152) (e0 : (s[i]'h).toNat = b0) (e1 : (s[i + 1]'h1).toNat = b1) (e2 : (s[i + 2]'h2).toNat = b2) (e3 : (s[i + 3]'h3).toNat = b3) (g0 : 241 ≤ b0) (g1 : b0 < 244) (g2 : 128 ≤ b1) (g3 : b1 ≤ 191) (g4 : 128 ≤ b2) (g5 : b2 ≤ 191) (g6 : b3 < 128) :
    Calls Tryd.prog 10 #[.string s, .int .i64 i] w (Dec w (65533) 1) := by
  have t0 : ((b0 : Int) == 240) = false := by simp; omega
  have t1 : ((b0 : Int) == 244) = false := by simp; omega
  go_enter Tryd.func10, Tryd.ntmps10
  go_wp2
  go_ret2
  exact ⟨rfl, 0, rfl⟩
set_option maxHeartbeats 2000000 in
theorem fx_hi3 (s : ByteArray) (i b0 b1 b2 b3 : Nat) (w : World) (h : i < s.size) (h1 : i + 1 < s.size) (h2 : i + 2 < s.size) (h3 : i + 3 < s.size) (hs : s.size ≤ 2097152) (e0 : (s[i]'h).toNat = b0) (e1 : (s[i + 1]'h1).toNat = b1) (e2 : (s[i + 2]'h2).toNat = b2) (e3 : (s[i + 3]'h3).toNat = b3) (g0 : 241 ≤ b0) (g1 : b0 < 244) (g2 : 128 ≤ b1) (g3 : b1 ≤ 191) (g4 : 128 ≤ b2) (g5 : b2 ≤ 191) (g6 : 191 < b3) (g7 : b3 < 256) :
    Calls Tryd.prog 10 #[.string s, .int .i64 i] w (Dec w (65533) 1) := by
  have t0 : ((b0 : Int) == 240) = false := by simp; omega
  have t1 : ((b0 : Int) == 244) = false := by simp; omega
  go_enter Tryd.func10, Tryd.ntmps10
  go_wp2
  go_ret2
  exact ⟨rfl, 0, rfl⟩
set_option maxHeartbeats 2000000 in
theorem fx (s : ByteArray) (i b0 b1 b2 b3 : Nat) (w : World) (h : i < s.size) (h1 : i + 1 < s.size) (h2 : i + 2 < s.size) (h3 : i + 3 < s.size) (hs : s.size ≤ 2097152) (e0 : (s[i]'h).toNat = b0) (e1 : (s[i + 1]'h1).toNat = b1) (e2 : (s[i + 2]'h2).toNat = b2) (e3 : (s[i + 3]'h3).toNat = b3) (g0 : 241 ≤ b0) (g1 : b0 < 244) (g2 : 128 ≤ b1) (g3 : b1 ≤ 191) (g4 : 128 ≤ b2) (g5 : b2 ≤ 191) (g6 : 128 ≤ b3) (g7 : b3 ≤ 191) :
    Calls Tryd.prog 10 #[.string s, .int .i64 i] w (Dec w ((b0 % 8 : Nat) * 262144 + (b1 % 64 : Nat) * 4096 + (b2 % 64 : Nat) * 64 + (b3 % 64 : Nat)) 4) := by
  have m0 := u8_7 b0 (by omega)
  have c0 := Nat.mod_lt b0 (show 0 < 8 by omega)
  have m1 := u8_63 b1 (by omega)
  have c1 := Nat.mod_lt b1 (show 0 < 64 by omega)
  have m2 := u8_63 b2 (by omega)
  have c2 := Nat.mod_lt b2 (show 0 < 64 by omega)
  have m3 := u8_63 b3 (by omega)
  have c3 := Nat.mod_lt b3 (show 0 < 64 by omega)
  have t0 : ((b0 : Int) == 240) = false := by simp; omega
  have t1 : ((b0 : Int) == 244) = false := by simp; omega
  generalize b0 % 8 = v0 at m0 c0 ⊢
  generalize b1 % 64 = v1 at m1 c1 ⊢
  generalize b2 % 64 = v2 at m2 c2 ⊢
  generalize b3 % 64 = v3 at m3 c3 ⊢
  have o1 := or4a v0 v1 c0 c1
  have o2 := or4b v0 v1 v2 c0 c1 c2
  have o3 := or4c v0 v1 v2 v3 c0 c1 c2 c3
  have i1 : IntKind.i64.wrap (↑i + 1) = ↑i + 1 := IntWalk.i64_in _ (by omega)
  have j1 : (0 : Int) ≤ ↑i + 1 := by omega
  have k1 : (↑i + 1 : Int).toNat = i + 1 := by omega
  have i2 : IntKind.i64.wrap (↑i + 2) = ↑i + 2 := IntWalk.i64_in _ (by omega)
  have j2 : (0 : Int) ≤ ↑i + 2 := by omega
  have k2 : (↑i + 2 : Int).toNat = i + 2 := by omega
  have i3 : IntKind.i64.wrap (↑i + 3) = ↑i + 3 := IntWalk.i64_in _ (by omega)
  have j3 : (0 : Int) ≤ ↑i + 3 := by omega
  have k3 : (↑i + 3 : Int).toNat = i + 3 := by omega
  go_enter Tryd.func10, Tryd.ntmps10
  go_wp2
  go_quiet (fail)
  go_wp2
  go_ret2
  exact ⟨rfl, _, rfl⟩
end Go.Proofs.YtfpiokpdpdokjaaDoor.Zd
