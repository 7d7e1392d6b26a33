/-
  The walks of the functions that FnCompareVersionsAgreesWithCompareSemver reaches: compareVersions, CompareSemver at a version without a pre-release, and the law's own. No statement of the seat is proved here.
-/
import Derived.Test.YtgjddkhmkaedgaaDoorRows
import Derived.WalkKit
import Derived.ProofKit
import Derived.WalkSpells
import Derived.WalkLawsBesides
import Derived.LoopTactic
import Derived.LoopN
import Derived.OwnWalk
import Derived.WalkSmall
import Derived.Lib.Hide
import Derived.Lib.IndexBytes
import Derived.Test.YtgjddkhmkaedgaaDoorOwn
namespace Go.Proofs.YtgjddkhmkaedgaaDoor
open Go.RowKit
set_option linter.unusedVariables false

theorem nth_out (zs : List Int) (i : Nat) (h : zs.length ≤ i) : nth zs i = 0 := by simp [nth, List.getElem?_eq_none h]
theorem cloneI_info : (Tryd.prog.info? 3).map (fun i => (i.zero, i.size, i.bytes)) = some (some (.int .i64 0), 1, 8) := by kernel_rfl
theorem cloneI_any (ao : Option Addr) (cap : Nat) (zs : List Int) (w : World) (hin : In .i64 w ao zs) (hl : zs.length ≤ 1048576) :
    Calls Tryd.prog 6 #[.slice ao zs.length cap] w (Owned .i64 3 w zs) := by
  have hnil := fun (w : World) => Lib.run_eql_slice_nil (P := Tryd.prog) w 23 3 ao zs.length cap 0 0 Tryd.underlying23
  rcases ao with _ | x
  · have hz : zs = [] := by
      rcases hin with h | ⟨b, off, h, _⟩
      · exact h
      · cases h
    subst hz
    clear hin hl
    simp only [List.length_nil, Option.isNone_none] at hnil
    go_enter Tryd.func6, Tryd.ntmps6
    go_wp2
    go_ret
    exact ⟨_, rfl, Own.nil _ _ _ _, Below.refl _ _⟩
  · have HI := Lib.hid hin
    clear hin
    go_enter Tryd.func6, Tryd.ntmps6
    go_wp2_with (at_make; refine wpList_make_ints _ rfl _ _ 23 rfl 3 .i64 8 Tryd.underlying23 cloneI_info zs.length rfl rfl (by omega) (by unfold maxLen; omega) ?_; intro w1 hb hgr)
    have hb1 : Below w.heap.size w w1 := (Below.refl _ w).grown hgr (Nat.le_refl _) (fun k h => by cases h)
    have HB := Lib.hid (And.intro hb hb1)
    clear hb hgr hb1
    go_loopw [4] (fun i wr => ∃ k : Nat, k ≤ zs.length ∧ i = .int .i64 k ∧ Blk wr w.heap.size 3 (ints .i64 (cpy zs k)) ∧ Below w.heap.size w wr) (fun i _ => zs.length - (intOf i).toNat)
    case atStart => exact ⟨0, Nat.zero_le _, rfl, by rw [cpy_zero]; exact HB.out.1, HB.out.2⟩
    case round =>
      obtain ⟨k, hk, rfl, hB, hbel⟩ := hrel
      rcases (show k = zs.length ∨ k < zs.length by omega) with rfl | hlt
      · rw [cpy_end] at hB
        have HF := Lib.hid (And.intro hB hbel)
        clear hB hbel
        go_wp2
        go_ret
        exact ⟨_, rfl, Own.of_blk HF.out.1 (Nat.le_refl _) (by unfold maxLen; omega), HF.out.2⟩
      · obtain ⟨b, off, hx, hblt, hc⟩ := HI.out.at hlt
        cases hx
        have hc' := (hbel.cell (p := ⟨b, off + k, none⟩) hblt).trans hc
        have hcl := cpy_length zs k hk
        have hs := hB.int (i := k) (by omega)
        have hf := hB.free k
        have hB2 := hB.put k (nth zs k)
        rw [cpy_step zs k hlt] at hB2
        have HN := Lib.hid (And.intro hB2 (hbel.setCell (p := ⟨w.heap.size, k, none⟩) (Nat.le_refl _) (.int .i64 (nth zs k))))
        clear hB hbel hB2 hc hcl
        go_wp2
        go_roundw
        case rel => exact ⟨k + 1, by omega, by go_num, HN.out.1, HN.out.2⟩
        case measure => simp [intOf]; omega

theorem part_in (ao : Option Addr) (cap i : Nat) (ii : Int) (zs : List Int) (w : World) (hii : ii = (i : Int)) (hin : In .i64 w ao zs) (hl : zs.length ≤ 1048576) :
    Calls Tryd.prog 9 #[.slice ao zs.length cap, .int .i64 ii] w fun e w' => e = .returned (.int .i64 (nth zs i)) ∧ w = w' := by
  subst hii
  rcases (show i < zs.length ∨ zs.length ≤ i by omega) with h | h
  · obtain ⟨b, off, hx, hlt, hc⟩ := hin.at h
    subst hx
    clear hin
    go_enter Tryd.func9, Tryd.ntmps9
    go_wp2
    go_ret
    exact ⟨rfl, rfl⟩
  · rw [nth_out zs i h]
    clear hin
    go_enter Tryd.func9, Tryd.ntmps9
    go_wp2
    go_ret
    exact ⟨rfl, rfl⟩
/-- the first three parts lie within the half of an int -/
def Fit (zs : List Int) : Prop := ∀ i, i < zs.length → i < 3 → -4611686018427387903 ≤ nth zs i ∧ nth zs i ≤ 4611686018427387903
theorem half_any (w : World) : Calls Tryd.prog 10 #[] w fun e w' => e = .returned (.int .i64 4611686018427387903) ∧ w = w' := by
  go_enter Tryd.func10, Tryd.ntmps10
  go_wp2
  go_ret
  exact ⟨rfl, rfl⟩
set_option maxRecDepth 100000 in
theorem fit_yes (ao : Option Addr) (cap : Nat) (zs : List Int) (w : World) (hin : In .i64 w ao zs) (hl : zs.length ≤ 1048576) (hf : Fit zs) :
    Calls Tryd.prog 5 #[.slice ao zs.length cap, .int .i64 3] w fun e w' => e = .returned (.bool true) ∧ w = w' := by
  have H := Lib.hid (And.intro hin hf)
  clear hin hf
  go_enter Tryd.func5, Tryd.ntmps5
  go_wp2_with fail
  refine (half_any _).mono ?_
  rintro e w1 ⟨rfl, rfl⟩
  go_wp2
  go_loopw [6] (fun x wr => ∃ j : Nat, j ≤ zs.length ∧ j ≤ 3 ∧ x = .int .i64 j ∧ wr = w) (fun x _ => 3 - (intOf x).toNat)
  case atStart => exact ⟨0, by omega, by omega, rfl, rfl⟩
  case round =>
    obtain ⟨j, hj, hj3, rfl, rfl⟩ := hrel
    rcases (show j = zs.length ∨ (j < zs.length ∧ j = 3) ∨ (j < zs.length ∧ j < 3) by omega) with rfl | ⟨h1, rfl⟩ | ⟨h1, h2⟩
    · go_wp2
      go_ret
      exact ⟨rfl, rfl⟩
    · go_wp2
      go_ret
      exact ⟨rfl, rfl⟩
    · obtain ⟨b, off, hx, hlt, hc⟩ := H.out.1.at h1
      subst hx
      obtain ⟨f1, f2⟩ := H.out.2 j h1 h2
      go_wp2
      go_roundw
      case rel => exact ⟨j + 1, by omega, by omega, by go_num, trivial⟩
      case measure => simp [intOf]; omega
theorem fit_or (zs : List Int) : Fit zs ∨ ∃ k, k < zs.length ∧ k < 3 ∧ (∀ i, i < k → -4611686018427387903 ≤ nth zs i ∧ nth zs i ≤ 4611686018427387903) ∧ (4611686018427387903 < nth zs k ∨ nth zs k < -4611686018427387903) := by
  by_cases h : Fit zs
  · exact .inl h
  · right
    have key : ∀ c k, 3 - k = c → (∀ i, i < k → i < zs.length → -4611686018427387903 ≤ nth zs i ∧ nth zs i ≤ 4611686018427387903) → ∃ k, k < zs.length ∧ k < 3 ∧ (∀ i, i < k → -4611686018427387903 ≤ nth zs i ∧ nth zs i ≤ 4611686018427387903) ∧ (4611686018427387903 < nth zs k ∨ nth zs k < -4611686018427387903) := by
      intro c
      induction c with
      | zero => intro k hk hh; exact absurd (fun i h1 h2 => hh i (by omega) h1) h
      | succ c ih =>
        intro k hk hh
        by_cases h1 : k < zs.length
        · by_cases h2 : -4611686018427387903 ≤ nth zs k ∧ nth zs k ≤ 4611686018427387903
          · refine ih (k + 1) (by omega) fun i hi hl => ?_
            rcases (show i = k ∨ i < k by omega) with rfl | h
            · exact h2
            · exact hh i h hl
          · exact ⟨k, h1, by omega, fun i hi => hh i hi (by omega), by omega⟩
        · exact absurd (fun i hi _ => hh i (by omega) hi) h
    exact key 3 0 rfl (fun i hi => by omega)
set_option maxRecDepth 100000 in
theorem fit_no (ao : Option Addr) (cap k : Nat) (zs : List Int) (w : World) (hin : In .i64 w ao zs) (hl : zs.length ≤ 1048576) (hk : k < zs.length) (hk3 : k < 3)
    (hf : ∀ i, i < k → -4611686018427387903 ≤ nth zs i ∧ nth zs i ≤ 4611686018427387903) (hb : 4611686018427387903 < nth zs k ∨ nth zs k < -4611686018427387903) :
    Calls Tryd.prog 5 #[.slice ao zs.length cap, .int .i64 3] w fun e w' => e = .returned (.bool false) ∧ w = w' := by
  have H := Lib.hid (And.intro hin (And.intro hf hb))
  clear hin hf hb
  go_enter Tryd.func5, Tryd.ntmps5
  go_wp2_with fail
  refine (half_any _).mono ?_
  rintro e w1 ⟨rfl, rfl⟩
  go_wp2
  go_loopw [6] (fun x wr => ∃ j : Nat, j ≤ k ∧ x = .int .i64 j ∧ wr = w) (fun x _ => 3 - (intOf x).toNat)
  case atStart => exact ⟨0, by omega, rfl, rfl⟩
  case round =>
    obtain ⟨j, hj, rfl, rfl⟩ := hrel
    obtain ⟨b, off, hx, hlt, hc⟩ := H.out.1.at (i := j) (by omega)
    subst hx
    rcases (show j = k ∨ j < k by omega) with rfl | h1
    · rcases H.out.2.2 with h | h
      · go_wp2
        go_ret
        exact ⟨rfl, rfl⟩
      · have h2 : decide ((4611686018427387903 : Int) < nth zs j) = false := by simp; omega
        go_wp2
        go_ret
        exact ⟨rfl, rfl⟩
    · obtain ⟨f1, f2⟩ := H.out.2.1 j h1
      go_wp2
      go_roundw
      case rel => exact ⟨j + 1, by omega, by go_num, trivial⟩
      case measure => simp [intOf]; omega
/-- what the two comparisons answer, A the table's version, Z the other's parts -/
def cvf (A Z : List Int) (s : ByteArray) : Int := if nth A 0 ≠ nth Z 0 then nth A 0 - nth Z 0 else if nth A 1 ≠ nth Z 1 then nth A 1 - nth Z 1 else if nth A 2 ≠ nth Z 2 then nth A 2 - nth Z 2 else if s.size ≠ 0 then 1 else 0
def csf (A Z : List Int) (s : ByteArray) : Int := if nth A 0 ≠ nth Z 0 then nth A 0 - nth Z 0 else if nth A 1 ≠ nth Z 1 then nth A 1 - nth Z 1 else if nth A 2 ≠ nth Z 2 then nth A 2 - nth Z 2 else s.size
theorem csf_at (A Z : List Int) (s : ByteArray) (j : Nat) (hj : j < 3) (h : ∀ t, t < j → nth A t = nth Z t) (hne : nth A j ≠ nth Z j) : csf A Z s = nth A j - nth Z j := by
  unfold csf
  rcases (show j = 0 ∨ j = 1 ∨ j = 2 by omega) with rfl | rfl | rfl
  · rw [if_pos hne]
  · rw [if_neg (fun c => c (h 0 (by omega))), if_pos hne]
  · rw [if_neg (fun c => c (h 0 (by omega))), if_neg (fun c => c (h 1 (by omega))), if_pos hne]
theorem csf_end (A Z : List Int) (s : ByteArray) (h : ∀ t, t < 3 → nth A t = nth Z t) : csf A Z s = s.size := by
  unfold csf
  rw [if_neg (fun c => c (h 0 (by omega))), if_neg (fun c => c (h 1 (by omega))), if_neg (fun c => c (h 2 (by omega)))]
set_option maxHeartbeats 4000000 in
theorem cv_core (M m p D0 D1 D2 : Int) (ao : Option Addr) (n cap : Nat) (s : ByteArray) (w : World) (hM : 0 ≤ M ∧ M ≤ 65535) (hm : 0 ≤ m ∧ m ≤ 255) (hp : 0 ≤ p ∧ p ≤ 255) (hn : n ≤ 1048576) (hs : s.size ≤ 1048576)
    (h0 : (n ≤ 0 ∧ D0 = M) ∨ ∃ b off z, ao = some ⟨b, off, none⟩ ∧ 0 < n ∧ b < w.heap.size ∧ w.cell? ⟨b, off, none⟩ = some (.int .i64 z) ∧ M - z = D0 ∧ -4611686018427387903 ≤ z ∧ z ≤ 4611686018427387903)
    (h1 : (n ≤ 1 ∧ D1 = m) ∨ ∃ b off z, ao = some ⟨b, off, none⟩ ∧ 1 < n ∧ b < w.heap.size ∧ w.cell? ⟨b, off + 1, none⟩ = some (.int .i64 z) ∧ m - z = D1 ∧ -4611686018427387903 ≤ z ∧ z ≤ 4611686018427387903)
    (h2 : (n ≤ 2 ∧ D2 = p) ∨ ∃ b off z, ao = some ⟨b, off, none⟩ ∧ 2 < n ∧ b < w.heap.size ∧ w.cell? ⟨b, off + 2, none⟩ = some (.int .i64 z) ∧ p - z = D2 ∧ -4611686018427387903 ≤ z ∧ z ≤ 4611686018427387903) :
    Calls Tryd.prog 11 #[.agg #[.int .u16 M, .int .u8 m, .int .u8 p], .agg #[.slice ao n cap, .string s]] w fun e w' => e = .returned (.int .i64 (if D0 ≠ 0 then D0 else if D1 ≠ 0 then D1 else if D2 ≠ 0 then D2 else if s.size ≠ 0 then 1 else 0)) ∧ Below w.heap.size w w' := by
  obtain ⟨R, hR⟩ : ∃ R, R = (if D0 ≠ 0 then D0 else if D1 ≠ 0 then D1 else if D2 ≠ 0 then D2 else if s.size ≠ 0 then (1 : Int) else 0) := ⟨_, rfl⟩
  rw [← hR]
  have hcase : ((D0 == 0) = false ∧ Hid (R = D0)) ∨ ((D0 == 0) = true ∧ (D1 == 0) = false ∧ Hid (R = D1)) ∨ ((D0 == 0) = true ∧ (D1 == 0) = true ∧ (D2 == 0) = false ∧ Hid (R = D2)) ∨
      ((D0 == 0) = true ∧ (D1 == 0) = true ∧ (D2 == 0) = true ∧ ((s.size : Int) != 0) = true ∧ Hid (R = 1)) ∨ ((D0 == 0) = true ∧ (D1 == 0) = true ∧ (D2 == 0) = true ∧ ((s.size : Int) != 0) = false ∧ Hid (R = D2)) := by
    by_cases k0 : D0 = 0
    · by_cases k1 : D1 = 0
      · by_cases k2 : D2 = 0
        · by_cases k3 : s.size = 0
          · exact .inr (.inr (.inr (.inr ⟨by simpa using k0, by simpa using k1, by simpa using k2, by rw [k3]; rfl, Lib.hid (by rw [hR, if_neg (fun c => c k0), if_neg (fun c => c k1), if_neg (fun c => c k2), if_neg (fun c => c k3), k2])⟩)))
          · exact .inr (.inr (.inr (.inl ⟨by simpa using k0, by simpa using k1, by simpa using k2, by rw [bne_iff_ne]; omega, Lib.hid (by rw [hR, if_neg (fun c => c k0), if_neg (fun c => c k1), if_neg (fun c => c k2), if_pos k3])⟩)))
        · exact .inr (.inr (.inl ⟨by simpa using k0, by simpa using k1, by simpa using k2, Lib.hid (by rw [hR, if_neg (fun c => c k0), if_neg (fun c => c k1), if_pos k2])⟩))
      · exact .inr (.inl ⟨by simpa using k0, by simpa using k1, Lib.hid (by rw [hR, if_neg (fun c => c k0), if_pos k1])⟩)
    · exact .inl ⟨by simpa using k0, Lib.hid (by rw [hR, if_pos k0])⟩
  obtain ⟨hM0, hM1⟩ := hM
  obtain ⟨hm0, hm1⟩ := hm
  obtain ⟨hp0, hp1⟩ := hp
  clear hR
  rcases h0 with ⟨n0, rfl⟩ | ⟨b, off, z0, rfl, n0, bl, c0, e0, y0, y0'⟩
  · rcases h1 with ⟨n1, rfl⟩ | ⟨_, _, _, _, n1, _⟩
    rotate_left
    · omega
    rcases h2 with ⟨n2, rfl⟩ | ⟨_, _, _, _, n2, _⟩
    rotate_left
    · omega
    rcases hcase with ⟨t0, HR⟩ | ⟨t0, t1, HR⟩ | ⟨t0, t1, t2, HR⟩ | ⟨t0, t1, t2, t3, HR⟩ | ⟨t0, t1, t2, t3, HR⟩
    all_goals
      go_enter Tryd.func11, Tryd.ntmps11
      go_wp2
      go_ret
      exact ⟨ret_int HR.out.symm, ((Below.refl _ _).alloc (Nat.le_refl _) _).alloc (by simp) _⟩
  · rcases h1 with ⟨n1, rfl⟩ | ⟨b', off', z1, hx1, n1, bl1, c1, e1, y1, y1'⟩
    · rcases h2 with ⟨n2, rfl⟩ | ⟨_, _, _, _, n2, _⟩
      rotate_left
      · omega
      rcases hcase with ⟨t0, HR⟩ | ⟨t0, t1, HR⟩ | ⟨t0, t1, t2, HR⟩ | ⟨t0, t1, t2, t3, HR⟩ | ⟨t0, t1, t2, t3, HR⟩
      all_goals
        go_enter Tryd.func11, Tryd.ntmps11
        go_wp2
        go_ret
        exact ⟨ret_int HR.out.symm, ((Below.refl _ _).alloc (Nat.le_refl _) _).alloc (by simp) _⟩
    · cases hx1
      rcases h2 with ⟨n2, rfl⟩ | ⟨b'', off'', z2, hx2, n2, bl2, c2, e2, y2, y2'⟩
      · rcases hcase with ⟨t0, HR⟩ | ⟨t0, t1, HR⟩ | ⟨t0, t1, t2, HR⟩ | ⟨t0, t1, t2, t3, HR⟩ | ⟨t0, t1, t2, t3, HR⟩
        all_goals
          go_enter Tryd.func11, Tryd.ntmps11
          go_wp2
          go_ret
          exact ⟨ret_int HR.out.symm, ((Below.refl _ _).alloc (Nat.le_refl _) _).alloc (by simp) _⟩
      · cases hx2
        rcases hcase with ⟨t0, HR⟩ | ⟨t0, t1, HR⟩ | ⟨t0, t1, t2, HR⟩ | ⟨t0, t1, t2, t3, HR⟩ | ⟨t0, t1, t2, t3, HR⟩
        all_goals
          go_enter Tryd.func11, Tryd.ntmps11
          go_wp2
          go_ret
          exact ⟨ret_int HR.out.symm, ((Below.refl _ _).alloc (Nat.le_refl _) _).alloc (by simp) _⟩
/-- what the loop of CompareSemver finds: the two boxes and the two lists -/
def Bx (w : World) (g k cap : Nat) (ao : Option Addr) (s : ByteArray) (A Z : List Int) (wr : World) : Prop :=
  Blk wr w.heap.size 29 #[.slice (some ⟨g, 0, none⟩) 3 3, .string ⟨#[]⟩] ∧ Blk wr (w.heap.size + 1) 29 #[.slice ao k cap, .string s] ∧ In .i64 wr (some ⟨g, 0, none⟩) A ∧ In .i64 wr ao Z ∧ Below w.heap.size w wr
theorem bx_start (w : World) (g k cap : Nat) (ao : Option Addr) (s : ByteArray) (A Z : List Int) (hA : In .i64 w (some ⟨g, 0, none⟩) A) (hZ : In .i64 w ao Z) :
    Bx w g k cap ao s A Z ((w.alloc (.cells #[.slice (some ⟨g, 0, none⟩) 3 3, .string ⟨#[]⟩] 29)).alloc (.cells #[.slice ao k cap, .string s] 29)) := by
  refine ⟨(Blk.new _ _ _).alloc _, ?_, (hA.alloc _).alloc _, (hZ.alloc _).alloc _, ((Below.refl _ _).alloc (Nat.le_refl _) _).alloc (by simp) _⟩
  have := Blk.new (w.alloc (.cells #[.slice (some ⟨g, 0, none⟩) 3 3, .string ⟨#[]⟩] 29)) 29 #[.slice ao k cap, .string s]
  rwa [show (w.alloc (.cells #[.slice (some ⟨g, 0, none⟩) 3 3, .string ⟨#[]⟩] 29)).heap.size = w.heap.size + 1 from by simp] at this
set_option maxHeartbeats 1000000 in
theorem cs_any (g k cap : Nat) (ao : Option Addr) (s : ByteArray) (A Z : List Int) (w : World) (hA : In .i64 w (some ⟨g, 0, none⟩) A) (hZ : In .i64 w ao Z) (hAl : A.length = 3) (hk : (k = Z.length ∧ k ≤ 3) ∨ (k = 3 ∧ 3 ≤ Z.length))
    (hb : ∀ i, i < 3 → (0 ≤ nth A i ∧ nth A i ≤ 65535) ∧ -4611686018427387903 ≤ nth Z i ∧ nth Z i ≤ 4611686018427387903) (hs : s.size ≤ 1048576) :
    Calls Tryd.prog 8 #[.agg #[.slice (some ⟨g, 0, none⟩) 3 3, .string ⟨#[]⟩], .agg #[.slice ao k cap, .string s]] w fun e w' => e = .returned (.int .i64 (csf A Z s)) ∧ Below w.heap.size w w' := by
  have hk3 : k ≤ 3 := by omega
  have HS := Lib.hid (bx_start w g k cap ao s A Z hA hZ)
  have HB := Lib.hid hb
  have HK := Lib.hid (And.intro hAl hk)
  have d0 : decide ((3 : Int) < (k : Int)) = false := by simp; omega
  have d1 : decide (3 < k) = false := by simp; omega
  clear hA hZ hAl hk hb
  go_enter Tryd.func8, Tryd.ntmps8
  go_wp2
  go_loopw [8] (fun x wr => ∃ j : Nat, j ≤ 3 ∧ x = .int .i64 j ∧ Hid ((∀ t, t < j → nth A t = nth Z t) ∧ Bx w g k cap ao s A Z wr)) (fun x _ => 3 - (intOf x).toNat)
  case atStart => exact ⟨0, by omega, rfl, Lib.hid ⟨fun t ht => by omega, HS.out⟩⟩
  case round =>
    obtain ⟨j, hj, rfl, H⟩ := hrel
    obtain ⟨q0, q1, ql⟩ := H.out.2.1.two
    obtain ⟨r0, r1, rl⟩ := H.out.2.2.1.two
    rcases (show j = 3 ∨ j < 3 by omega) with rfl | hlt
    · have HE := Lib.hid (csf_end A Z s H.out.1)
      by_cases hs0 : s.size = 0
      · obtain rfl : s = ⟨#[]⟩ := by
          apply ByteArray.ext
          exact Array.eq_empty_of_size_eq_zero hs0
        clear hs0 hs
        go_wp2
        refine wp_loop_rounds 1 ?_
        rw [rounds_succ]
        go_wp2
        go_ret
        exact ⟨ret_int (by rw [HE.out]; rfl), H.out.2.2.2.2.2⟩
      · have E0 : s.toList.isEmpty = false := by
          have hne : ¬ s.data.toList = [] := fun hh => by
            have e : s.size = s.data.toList.length := Array.length_toList.symm
            rw [hh] at e
            exact hs0 e
          rw [Lib.toList_data]
          simpa using hne
        have E1 : ¬ s.toList = [] := by intro h; rw [h] at E0; cases E0
        go_wp2
        go_ret
        exact ⟨ret_int (by rw [HE.out]), H.out.2.2.2.2.2⟩
    · obtain ⟨b0, o0, x0, l0, c0⟩ := H.out.2.2.2.1.at (i := j) (by rw [HK.out.1]; exact hlt)
      cases x0
      rw [Nat.zero_add] at c0
      obtain ⟨⟨v1, v2⟩, v3, v4⟩ := HB.out j hlt
      rcases (show j < k ∨ k ≤ j by omega) with hjk | hjk
      · obtain ⟨b1, o1, x1, l1, c1⟩ := H.out.2.2.2.2.1.at (i := j) (by have := HK.out.2; omega)
        subst x1
        by_cases hne : nth A j = nth Z j
        · have t0 : (nth A j != nth Z j) = false := by simp [hne]
          have HN : Hid (∀ t, t < j + 1 → nth A t = nth Z t) := Lib.hid fun t ht => by
            rcases (show t = j ∨ t < j by omega) with rfl | h
            · exact hne
            · exact H.out.1 t h
          clear hne
          go_wp2
          go_roundw
          case rel => exact ⟨j + 1, by omega, by go_num, Lib.hid ⟨HN.out, H.out.2⟩⟩
          case measure => simp [intOf]; omega
        · have t0 : (nth A j != nth Z j) = true := by simp [hne]
          have HE := Lib.hid (csf_at A Z s j hlt H.out.1 hne)
          clear hne
          go_wp2
          go_ret
          exact ⟨ret_int (by rw [HE.out]), H.out.2.2.2.2.2⟩
      · have hz : nth Z j = 0 := nth_out Z j (by have := HK.out.2; omega)
        by_cases hne : nth A j = 0
        · have t0 : (nth A j != 0) = false := by simp [hne]
          have HN : Hid (∀ t, t < j + 1 → nth A t = nth Z t) := Lib.hid fun t ht => by
            rcases (show t = j ∨ t < j by omega) with rfl | h
            · rw [hne, hz]
            · exact H.out.1 t h
          clear hne hz
          go_wp2
          go_roundw
          case rel => exact ⟨j + 1, by omega, by go_num, Lib.hid ⟨HN.out, H.out.2⟩⟩
          case measure => simp [intOf]; omega
        · have t0 : (nth A j != 0) = true := by simp [hne]
          have HE : Hid (csf A Z s = nth A j) := Lib.hid (by rw [csf_at A Z s j hlt H.out.1 (by rw [hz]; exact hne), hz]; omega)
          clear hne hz
          go_wp2
          go_ret
          exact ⟨ret_int (by rw [HE.out]), H.out.2.2.2.2.2⟩
theorem cv_any (M m p : Int) (ao : Option Addr) (cap : Nat) (Z : List Int) (s : ByteArray) (w : World) (hM : 0 ≤ M ∧ M ≤ 65535) (hm : 0 ≤ m ∧ m ≤ 255) (hp : 0 ≤ p ∧ p ≤ 255) (hZ : In .i64 w ao Z) (hn : Z.length ≤ 1048576) (hf : Fit Z) (hs : s.size ≤ 1048576) :
    Calls Tryd.prog 11 #[.agg #[.int .u16 M, .int .u8 m, .int .u8 p], .agg #[.slice ao Z.length cap, .string s]] w fun e w' => e = .returned (.int .i64 (cvf [M, m, p] Z s)) ∧ Below w.heap.size w w' := by
  have one : ∀ (i : Nat) (x : Int), i < 3 → (Z.length ≤ i ∧ x - nth Z i = x) ∨ ∃ b off z, ao = some ⟨b, off, none⟩ ∧ i < Z.length ∧ b < w.heap.size ∧ w.cell? ⟨b, off + i, none⟩ = some (.int .i64 z) ∧ x - z = x - nth Z i ∧ -4611686018427387903 ≤ z ∧ z ≤ 4611686018427387903 := by
    intro i x h3
    rcases (show i < Z.length ∨ Z.length ≤ i by omega) with h | h
    · obtain ⟨b, off, hx, hlt, hc⟩ := hZ.at h
      exact .inr ⟨b, off, nth Z i, hx, h, hlt, hc, rfl, (hf i h h3).1, (hf i h h3).2⟩
    · exact .inl ⟨h, by rw [nth_out Z i h]; omega⟩
  refine (cv_core M m p (M - nth Z 0) (m - nth Z 1) (p - nth Z 2) ao Z.length cap s w hM hm hp hn hs (one 0 M (by omega)) (one 1 m (by omega)) (one 2 p (by omega))).mono ?_
  rintro e w' ⟨rfl, hb⟩
  refine ⟨ret_int ?_, hb⟩
  have e0 : nth [M, m, p] 0 = M := rfl
  have e1 : nth [M, m, p] 1 = m := rfl
  have e2 : nth [M, m, p] 2 = p := rfl
  unfold cvf
  rw [e0, e1, e2]
  simp only [ne_eq, Int.sub_eq_zero]
theorem zcv_any (M m p : Int) (ao : Option Addr) (cap : Nat) (Z : List Int) (s : ByteArray) (w : World) (hM : 0 ≤ M ∧ M ≤ 65535) (hm : 0 ≤ m ∧ m ≤ 255) (hp : 0 ≤ p ∧ p ≤ 255) (hZ : In .i64 w ao Z) (hn : Z.length ≤ 1048576) (hf : Fit Z) (hs : s.size ≤ 1048576) :
    Calls Tryd.prog 7 #[.int .u16 M, .int .u8 m, .int .u8 p, .agg #[.slice ao Z.length cap, .string s]] w fun e w' => e = .returned (.int .i64 (cvf [M, m, p] Z s)) ∧ Below w.heap.size w w' := by
  have H := Lib.hid (And.intro hZ hf)
  clear hZ hf
  go_enter Tryd.func7, Tryd.ntmps7
  go_wp2_with fail
  refine (cv_any M m p ao cap Z s _ hM hm hp (H.out.1.alloc _) hn H.out.2 hs).mono ?_
  rintro e w' ⟨rfl, hb⟩
  have HB := Lib.hid (below_new _ hb)
  clear hb
  go_wp2
  go_ret
  exact ⟨rfl, HB.out⟩
theorem bytes_yes (M m p : Int) (a0 : Option Addr) (n c : Nat) (s : ByteArray) (w : World) (h : n + s.size ≤ 1048576) : Calls Tryd.prog 4 #[.int .u16 M, .int .u8 m, .int .u8 p, .slice a0 n c, .string s] w fun e w' => e = .returned (.bool true) ∧ w' = w := by
  have h0 : n ≤ 1048576 := by omega
  have h1 : s.size ≤ 1048576 := by omega
  go_enter Tryd.func4, Tryd.ntmps4
  go_wp2
  go_ret
  exact ⟨rfl, rfl⟩
theorem bytes_no (M m p : Int) (a0 : Option Addr) (n c : Nat) (s : ByteArray) (w : World) (h : 1048576 < n + s.size) (m0 : n ≤ maxLen) (m1 : s.size ≤ maxLen) : Calls Tryd.prog 4 #[.int .u16 M, .int .u8 m, .int .u8 p, .slice a0 n c, .string s] w fun e w' => e = .returned (.bool false) ∧ w' = w := by
  unfold maxLen at m0 m1
  by_cases h0 : n ≤ 1048576
  rotate_left
  · go_enter Tryd.func4, Tryd.ntmps4
    go_wp2
    go_ret
    exact ⟨rfl, rfl⟩
  by_cases h1 : s.size ≤ 1048576
  all_goals
    go_enter Tryd.func4, Tryd.ntmps4
    go_wp2
    go_ret
    exact ⟨rfl, rfl⟩
theorem bad1 (M m p : Int) (a0 : Option Addr) (n c : Nat) (s : ByteArray) (w : World) (h : 1048576 < n + s.size) (m0 : n ≤ maxLen) (m1 : s.size ≤ maxLen) : Calls Tryd.prog 3 #[.int .u16 M, .int .u8 m, .int .u8 p, .slice a0 n c, .string s] w fun e w' => e = .returned (.bool true) ∧ Below w.heap.size w w' := by
  go_enter Tryd.func3, Tryd.ntmps3
  go_wp2_with fail
  refine (bytes_no _ _ _ _ _ _ _ _ h m0 m1).mono ?_
  rintro e w1 ⟨rfl, rfl⟩
  go_wp2
  go_ret
  exact ⟨rfl, Below.refl _ _⟩
theorem bad2 (M m p : Int) (a0 : Option Addr) (n c : Nat) (s : ByteArray) (w : World) (h : n + s.size ≤ 1048576) (k : 131072 < n ∨ (n ≤ 131072 ∧ s.size ≤ 1048576 ∧ 1048576 < n * 8 + s.size)) : Calls Tryd.prog 3 #[.int .u16 M, .int .u8 m, .int .u8 p, .slice a0 n c, .string s] w fun e w' => e = .returned (.bool true) ∧ Below w.heap.size w w' := by
  rcases k with k | ⟨k, k1, k2⟩
  all_goals
    go_enter Tryd.func3, Tryd.ntmps3
    go_wp2_with fail
    refine (bytes_yes _ _ _ _ _ _ _ _ h).mono ?_
    rintro e w1 ⟨rfl, rfl⟩
    go_wp2
    go_ret
    exact ⟨rfl, Below.refl _ _⟩
theorem bad3 (M m p : Int) (a0 : Option Addr) (c k : Nat) (Z : List Int) (s : ByteArray) (w : World) (hZ : In .i64 w a0 Z) (h : Z.length * 8 + s.size ≤ 1048576) (hk : k < Z.length) (hk3 : k < 3)
    (hf : ∀ i, i < k → -4611686018427387903 ≤ nth Z i ∧ nth Z i ≤ 4611686018427387903) (hb : 4611686018427387903 < nth Z k ∨ nth Z k < -4611686018427387903) : Calls Tryd.prog 3 #[.int .u16 M, .int .u8 m, .int .u8 p, .slice a0 Z.length c, .string s] w fun e w' => e = .returned (.bool true) ∧ Below w.heap.size w w' := by
  have H := Lib.hid (And.intro hZ (And.intro hf hb))
  have h1 : Z.length ≤ 131072 := by omega
  have h2 : s.size ≤ 1048576 := by omega
  have d1 : decide ((131072 : Int) < (Z.length : Int)) = false := by simp; omega
  have d2 : decide ((1048576 : Int) < (s.size : Int)) = false := by simp; omega
  clear hZ hf hb
  go_enter Tryd.func3, Tryd.ntmps3
  go_wp2_with fail
  refine (bytes_yes _ _ _ _ _ _ _ _ (by omega)).mono ?_
  rintro e w1 ⟨rfl, rfl⟩
  go_wp2_with fail
  refine (fit_no a0 c k Z _ H.out.1 (by omega) hk hk3 H.out.2.1 H.out.2.2).mono ?_
  rintro e w1 ⟨rfl, rfl⟩
  go_wp2
  go_ret
  exact ⟨rfl, Below.refl _ _⟩
/-- the five ways through the end of the law -/
theorem ways (M m p : Int) (Z : List Int) (s : ByteArray) :
    ((nth Z 0 == M) = false ∧ Hid (cvf [M, m, p] Z s = csf [M, m, p] Z s)) ∨ ((nth Z 0 == M) = true ∧ (nth Z 1 == m) = false ∧ Hid (cvf [M, m, p] Z s = csf [M, m, p] Z s)) ∨
    ((nth Z 0 == M) = true ∧ (nth Z 1 == m) = true ∧ (nth Z 2 == p) = false ∧ Hid (cvf [M, m, p] Z s = csf [M, m, p] Z s)) ∨
    ((nth Z 0 == M) = true ∧ (nth Z 1 == m) = true ∧ (nth Z 2 == p) = true ∧ s.size = 0 ∧ Hid (cvf [M, m, p] Z s = csf [M, m, p] Z s)) ∨
    ((nth Z 0 == M) = true ∧ (nth Z 1 == m) = true ∧ (nth Z 2 == p) = true ∧ s.size ≠ 0 ∧ Hid (cvf [M, m, p] Z s = 1) ∧ Hid (csf [M, m, p] Z s = (s.size : Int))) := by
  have e0 : nth [M, m, p] 0 = M := rfl
  have e1 : nth [M, m, p] 1 = m := rfl
  have e2 : nth [M, m, p] 2 = p := rfl
  by_cases k0 : nth Z 0 = M
  · by_cases k1 : nth Z 1 = m
    · by_cases k2 : nth Z 2 = p
      · have a : ∀ x : Int, (if M ≠ nth Z 0 then M - nth Z 0 else if m ≠ nth Z 1 then m - nth Z 1 else if p ≠ nth Z 2 then p - nth Z 2 else x) = x := fun x => by
          rw [if_neg (fun c => c k0.symm), if_neg (fun c => c k1.symm), if_neg (fun c => c k2.symm)]
        by_cases k3 : s.size = 0
        · exact .inr (.inr (.inr (.inl ⟨by simpa using k0, by simpa using k1, by simpa using k2, k3, Lib.hid (by unfold cvf csf; rw [e0, e1, e2, a, a, if_neg (fun c => c k3), k3]; rfl)⟩)))
        · exact .inr (.inr (.inr (.inr ⟨by simpa using k0, by simpa using k1, by simpa using k2, k3, Lib.hid (by unfold cvf; rw [e0, e1, e2, a, if_pos k3]), Lib.hid (by unfold csf; rw [e0, e1, e2, a])⟩)))
      · exact .inr (.inr (.inl ⟨by simpa using k0, by simpa using k1, by simpa using k2, Lib.hid (by unfold cvf csf; rw [e0, e1, e2, if_neg (fun c => c k0.symm), if_neg (fun c => c k1.symm), if_pos (fun c => k2 c.symm), if_neg (fun c => c k0.symm), if_neg (fun c => c k1.symm), if_pos (fun c => k2 c.symm)])⟩))
    · exact .inr (.inl ⟨by simpa using k0, by simpa using k1, Lib.hid (by unfold cvf csf; rw [e0, e1, e2, if_neg (fun c => c k0.symm), if_pos (fun c => k1 c.symm), if_neg (fun c => c k0.symm), if_pos (fun c => k1 c.symm)])⟩)
  · exact .inl ⟨by simpa using k0, Lib.hid (by unfold cvf csf; rw [e0, e1, e2, if_pos (fun c => k0 c.symm), if_pos (fun c => k0 c.symm)])⟩
theorem in_three (w : World) (M m p : Int) : In .i64 (w.alloc (.cells #[.int .i64 M, .int .i64 m, .int .i64 p] 3)) (some ⟨w.heap.size, 0, none⟩) [M, m, p] := by
  have := (Blk.new w 3 (ints .i64 [M, m, p])).in
  exact this
end Go.Proofs.YtgjddkhmkaedgaaDoor
