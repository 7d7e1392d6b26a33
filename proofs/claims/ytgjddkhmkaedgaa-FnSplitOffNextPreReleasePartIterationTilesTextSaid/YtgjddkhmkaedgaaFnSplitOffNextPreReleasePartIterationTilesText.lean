/-
  For every text the law FnSplitOffNextPreReleasePartIterationTilesText returns true: splitting off the next pre-release part again and again ends, and the dot-free heads, single dots between them, tile the text in order (beyond its length bound it returns true too). No conditions.
-/
import Derived.Test.YtgjddkhmkaedgaaRows
import Derived.WalkKit
import Derived.ProofKit
import Derived.OpenShut
import Derived.Below
import Derived.ChangeOld
import Derived.ShutString
import Derived.WalkSpells
import Derived.WalkLawsBesides
import Derived.LoopTactic
import Derived.RegionTactic
import Derived.ChangeAlike
import Derived.Lib.IndexLaws
import Derived.Lib.IndexBytes
import Derived.Test.YtgjddkhmkaedgaaBase
import Derived.Test.YtgjddkhmkaedgaaShelf
namespace Go.Proofs.Ytgjddkhmkaedgaa.fnSplitOffNextPreReleasePartIterationTilesText
open Go.ChangeShapes Go.WideShapes Go.ChangeAt Go.RowKit
open Go.ChangeMaps (open_string shut_string)
set_option linter.unusedVariables false

theorem own : ownKnob Try.prog.godebug = none := by kernel_rfl

theorem ext_size (s : ByteArray) (a b : Nat) (hb : b ≤ s.size) : (s.extract a b).size = b - a := by simp; omega
theorem ext_get (s : ByteArray) (a b i : Nat) (hb : b ≤ s.size) (h : a + i < b) : (s.extract a b)[i]'(by rw [ext_size s a b hb]; omega) = s[a + i]'(by omega) := by
  simp [ByteArray.getElem_extract]
theorem ext_ext (s : ByteArray) (a b c d : Nat) (hb : b ≤ s.size) (h : a + d ≤ b) : (s.extract a b).extract c d = s.extract (a + c) (a + d) := by
  simp only [ByteArray.extract_extract]
  rw [Nat.min_eq_left h]
theorem split_no (t : ByteArray) (w : World) (h : Lib.indexByte t.data.toList 46 = -1) (hs : t.size ≤ 1048576) :
    Calls Try.prog 6 #[.string t] w fun e w' => e = .returned (.tuple #[.string t, .string ⟨#[]⟩]) ∧ w' = w := by
  have H := Lib.hid h
  clear h
  go_enter Try.func6, Try.ntmps6
  go_wp2_with fail
  refine (Try.strings_IndexByte _ _ _).mono ?_
  rintro e w' ⟨rfl, rfl⟩
  rw [show ((46 : Int).toNat.toUInt8) = 46 from rfl, H.out]
  go_wp2
  go_ret2
  exact ⟨rfl, rfl⟩
theorem split_yes (t : ByteArray) (k : Nat) (w : World) (h : Lib.indexByte t.data.toList 46 = k) (hk : k < t.size) (hs : t.size ≤ 1048576) :
    Calls Try.prog 6 #[.string t] w fun e w' => e = .returned (.tuple #[.string (t.extract 0 k), .string (t.extract (k + 1) t.size)]) ∧ w' = w.drew := by
  have H := Lib.hid h
  clear h
  have hne : ((k : Int) == -1) = false := by simp
  have hne' : ((k : Int) != -1) = true := by simp
  go_enter Try.func6, Try.ntmps6
  go_wp2_with fail
  refine (Try.strings_IndexByte _ _ _).mono ?_
  rintro e w' ⟨rfl, rfl⟩
  rw [show ((46 : Int).toNat.toUInt8) = 46 from rfl, H.out]
  go_wp2
  have e1 : IntKind.i64.wrap ((k : Int) + 1) = (k : Int) + 1 := IntWalk.i64_in _ (by omega)
  have e2 : (0 : Int) ≤ (k : Int) + 1 := by omega
  have e3 : ((k : Int) + 1).toNat = k + 1 := by omega
  have e4 : (0 : Int) ≤ (k : Int) := by omega
  have e5 : (k : Int) ≤ (t.size : Int) := by omega
  have e6 : (k : Int) + 1 ≤ (t.size : Int) := by omega
  go_region
  go_wp2
  go_ret2
  exact ⟨rfl, rfl⟩
theorem bytes_yes (s : ByteArray) (w : World) (h : s.size ≤ 1048576) : Calls Try.prog 4 #[.string s] w fun e w' => e = .returned (.bool true) ∧ w' = w := by
  go_enter Try.func4, Try.ntmps4
  go_wp2
  go_ret
  exact ⟨rfl, rfl⟩
theorem bytes_no (s : ByteArray) (w : World) (h : 1048576 < s.size) : Calls Try.prog 4 #[.string s] w fun e w' => e = .returned (.bool false) ∧ w' = w := by
  go_enter Try.func4, Try.ntmps4
  go_wp2
  go_ret
  exact ⟨rfl, rfl⟩
theorem zz_no (t : ByteArray) (w : World) (h : Lib.indexByte t.data.toList 46 = -1) (hs : t.size ≤ 1048576) :
    Calls Try.prog 5 #[.string t] w fun e w' => e = .returned (.tuple #[.string t, .string ⟨#[]⟩]) ∧ Below w.heap.size w w' := by
  have H := Lib.hid h
  clear h
  go_enter Try.func5, Try.ntmps5
  go_wp2_with fail
  refine (split_no _ _ H.out hs).mono ?_
  rintro e w' ⟨rfl, rfl⟩
  go_wp2
  go_ret2
  exact ⟨rfl, Below.refl _ _⟩
theorem zz_yes (t : ByteArray) (k : Nat) (w : World) (h : Lib.indexByte t.data.toList 46 = k) (hk : k < t.size) (hs : t.size ≤ 1048576) :
    Calls Try.prog 5 #[.string t] w fun e w' => e = .returned (.tuple #[.string (t.extract 0 k), .string (t.extract (k + 1) t.size)]) ∧ Below w.heap.size w w' := by
  have H := Lib.hid h
  clear h
  go_enter Try.func5, Try.ntmps5
  go_wp2_with fail
  refine (split_yes _ _ _ H.out hk hs).mono ?_
  rintro e w' ⟨rfl, rfl⟩
  go_wp2
  go_ret2
  exact ⟨rfl, (Below.refl _ _).drew⟩
theorem big (s : ByteArray) (w : World) (h : 1048576 < s.size) : Calls Try.prog 3 #[.string s] w fun e w' => e = .returned (.bool true) ∧ Below w.heap.size w w' := by
  go_enter Try.func3, Try.ntmps3
  go_wp2_with fail
  refine (bytes_no _ _ h).mono ?_
  rintro e w1 ⟨rfl, rfl⟩
  go_wp2
  go_ret
  exact ⟨rfl, Below.refl _ _⟩
theorem ba_ext {a b : ByteArray} (hl : a.size = b.size) (h : ∀ i (h1 : i < a.size) (h2 : i < b.size), a[i] = b[i]) : a = b := by
  apply ByteArray.ext
  apply Array.ext hl
  intro i h1 h2
  exact h i h1 h2
/-- what one split hands back of the text from pos on: a head of m bytes without a dot, and what lies behind the dot -/
def Sp (s : ByteArray) (pos m : Nat) (Hd Rs : ByteArray) : Prop :=
  Hd = s.extract pos (pos + m) ∧ (∀ i (h : i < Hd.size), ((Hd[i]'h).toNat : Int) ≠ 46) ∧ ((pos + m = s.size ∧ Rs = ⟨#[]⟩) ∨ (∃ h : pos + m < s.size, (s[pos + m]'h).toNat = 46 ∧ Rs = s.extract (pos + m + 1) s.size))
def Split (s : ByteArray) (pos : Nat) (w : World) (e : Ending) (w' : World) : Prop := (∃ m Hd Rs, e = .returned (.tuple #[.string Hd, .string Rs]) ∧ Sp s pos m Hd Rs ∧ pos + m ≤ s.size) ∧ Below w.heap.size w w'
theorem u8_46 {c : UInt8} (h : (c.toNat : Int) = 46) : c = 46 := by
  apply UInt8.toNat_inj.1
  show c.toNat = 46
  omega
theorem zz_any (s : ByteArray) (pos : Nat) (w : World) (T : ByteArray) (hT : T = s.extract pos s.size) (hp : pos < s.size) (hs : s.size ≤ 1048576) : Calls Try.prog 5 #[.string T] w (Split s pos w) := by
  have hTs : T.size = s.size - pos := by rw [hT, ext_size _ _ _ (Nat.le_refl _)]
  have hl : T.data.toList.length = T.size := Array.length_toList
  have hat : ∀ i (h : i < T.size), T.data.toList[i]? = some (T[i]'h) := fun i h => by
    rw [List.getElem?_eq_getElem (by rw [hl]; exact h)]; rfl
  by_cases hi : Lib.indexByte T.data.toList 46 = -1
  · refine (zz_no T w hi (by omega)).mono ?_
    rintro e w' ⟨rfl, hb⟩
    refine ⟨⟨s.size - pos, T, _, rfl, ⟨by rw [hT]; congr 1; omega, fun i h c => ?_, .inl ⟨by omega, rfl⟩⟩, by omega⟩, hb⟩
    exact Lib.indexByte_none hi i (by rw [hat i h, u8_46 c])
  · have hge := Lib.indexByte_ge T.data.toList 46
    obtain ⟨k, hk⟩ := Int.eq_ofNat_of_zero_le (show 0 ≤ Lib.indexByte T.data.toList 46 by omega)
    obtain ⟨a1, a2⟩ := Lib.indexByte_some hk
    have hkl : k < T.size := by have := (List.getElem?_eq_some_iff.1 a1).1; omega
    refine (zz_yes T k w hk hkl (by omega)).mono ?_
    rintro e w' ⟨rfl, hb⟩
    have e1 : T.extract 0 k = s.extract pos (pos + k) := by rw [hT, ext_ext _ _ _ _ _ (Nat.le_refl _) (by omega)]; rfl
    have e2 : T.extract (k + 1) T.size = s.extract (pos + k + 1) s.size := by
      rw [hTs, hT, ext_ext _ _ _ _ _ (Nat.le_refl _) (by omega)]
      congr 1; omega
    have hz : (T.extract 0 k).size = k := by rw [ext_size _ _ _ (by omega)]; rfl
    refine ⟨⟨k, _, _, rfl, ⟨e1, fun i h c => ?_, .inr ⟨by omega, ?_, e2⟩⟩, by omega⟩, hb⟩
    · rw [hz] at h
      have e3 : (T.extract 0 k)[i] = T[i]'(by omega) := by
        rw [ext_get T 0 k i (by omega) (by omega)]; simp
      rw [e3] at c
      exact a2 i h (by rw [hat i (by omega), u8_46 c])
    · have h1 := hat k hkl
      rw [a1] at h1
      have h2 : T[k] = s[pos + k]'(by omega) := by subst hT; exact ext_get s pos s.size k (Nat.le_refl _) (by omega)
      rw [← h2, ← Option.some.inj h1]; rfl
set_option maxHeartbeats 1000000 in
theorem good (s : ByteArray) (w : World) (h : s.size ≤ 1048576) : Calls Try.prog 3 #[.string s] w fun e w' => e = .returned (.bool true) ∧ Below w.heap.size w w' := by
  have D0 : decide ((1048576 : Int) < (s.size : Int)) = false := by simp; omega
  go_enter Try.func3, Try.ntmps3
  go_wp2_with fail
  refine (bytes_yes _ _ h).mono ?_
  rintro e w1 ⟨rfl, rfl⟩
  go_wp2
  go_loopw [3, 4, 5, 6, 7] (fun t p _ _ _ wr => ∃ (T : ByteArray) (pos : Nat), t = .string T ∧ p = .int .i64 pos ∧ pos ≤ s.size ∧ T = s.extract pos s.size ∧ Below w1.heap.size w1 wr) (fun _ p _ _ _ _ => s.size + 1 - (intOf p).toNat)
  case atStart => exact ⟨s, 0, rfl, rfl, Nat.zero_le _, by simp, Below.refl _ _⟩
  case round =>
    obtain ⟨T, pos, rfl, rfl, hp, hT, hbel⟩ := hrel
    have hTs : T.size = s.size - pos := by rw [hT, ext_size _ _ _ (Nat.le_refl _)]
    have HT := Lib.hid hT
    have HB := Lib.hid hbel
    have T1 : T.size + pos ≤ s.size := by omega
    have T2 : s.size ≤ T.size + pos := by omega
    rcases (show pos = s.size ∨ pos < s.size by omega) with rfl | hlt
    · have e0 : T = ⟨#[]⟩ := by
        rw [hT]; apply ba_ext
        · rw [ext_size _ _ _ (Nat.le_refl _), Nat.sub_self]; rfl
        · intro i h1 h2; simp [ByteArray.size] at h2
      subst e0
      clear hT hbel hTs T1 T2
      go_wp2
      go_ret
      exact ⟨rfl, HB.out⟩
    · have E0 : T.toList.isEmpty = false := by
        have hne : ¬ T.data.toList = [] := fun hh => by
          have e : T.size = T.data.toList.length := Array.length_toList.symm
          rw [hh] at e
          simp only [List.length_nil] at e
          omega
        rw [Lib.toList_data]
        simpa using hne
      have E1 : ¬ T.toList = [] := by intro h; rw [h] at E0; cases E0
      have hsz := hbel.size
      clear hT hbel hTs
      go_wp2_with fail
      refine (zz_any s pos _ _ HT.out hlt h).mono ?_
      rintro e w2 ⟨⟨m, Hd, Rs, rfl, hsp, hm⟩, b2⟩
      have HB2 := Lib.hid (below_then HB.out b2 hsz)
      have HS := Lib.hid hsp
      have hds : Hd.size = m := by rw [hsp.1, ext_size _ _ _ (by omega)]; omega
      have H1 : Hd.size ≤ m := by omega
      have H2 : m ≤ Hd.size := by omega
      clear b2 hsp hds
      go_wp2
      go_loopw [7] (fun i wr => ∃ k : Nat, k ≤ Hd.size ∧ i = .int .i64 k ∧ wr = w2) (fun i _ => Hd.size - (intOf i).toNat)
      case atStart => exact ⟨0, Nat.zero_le _, rfl, rfl⟩
      case round =>
        obtain ⟨k, hk, rfl, rfl⟩ := hrel
        rcases (show k = Hd.size ∨ k < Hd.size by omega) with rfl | hlk
        · have F1 : ((s.extract pos (pos + Hd.size)).toList == Hd.toList) = true := by
            have := HS.out.1
            rw [show m = Hd.size by omega] at this
            rw [← this]; simp
          have F2 : ((s.extract pos (pos + Hd.size)).toList != Hd.toList) = false := by rw [bne, F1]; rfl
          rcases HS.out.2.2 with ⟨q1, rfl⟩ | ⟨q1, q2, q3⟩
          · have Q1 : s.size ≤ pos + Hd.size := by omega
            have Q2 : pos + Hd.size ≤ s.size := by omega
            have Q3 : Hid (pos + Hd.size = s.size) := Lib.hid (by omega)
            clear q1
            go_wp2
            refine ⟨⟨⟨#[]⟩, pos + Hd.size, rfl, by go_num, Q2, ?_, HB2.out⟩, by simp [intOf]; omega⟩
            rw [Q3.out]
            symm
            apply ba_ext
            · rw [ext_size _ _ _ (Nat.le_refl _), Nat.sub_self]; rfl
            · intro i h1 h2; simp [ByteArray.size] at h2
          · have hs' : Rs.size = s.size - (pos + m + 1) := by rw [q3, ext_size _ _ _ (Nat.le_refl _)]
            have Q1 : pos + Hd.size < s.size := by omega
            have Q4 : Rs.size + (pos + Hd.size + 1) ≤ s.size := by omega
            have Q5 : s.size ≤ Rs.size + (pos + Hd.size + 1) := by omega
            have Q6 : (((s[pos + Hd.size]'Q1).toNat : Int) != 46) = false := by
              have e : (s[pos + Hd.size]'Q1).toNat = 46 := by
                rw [← q2]; congr 2; omega
              simp [e]
            have Q3 := Lib.hid q3
            have Qm : Hid (m = Hd.size) := Lib.hid (by omega)
            clear q1 q2 q3 hs'
            go_wp2
            refine ⟨⟨Rs, pos + Hd.size + 1, rfl, by go_num, by omega, ?_, HB2.out⟩, by simp [intOf]; omega⟩
            rw [Q3.out, Qm.out]
        · have F := HS.out.2.1 k hlk
          have F' : (((Hd[k]'hlk).toNat : Int) == 46) = false := by simpa using F
          clear F
          go_wp2
          go_roundw
          case rel => exact ⟨k + 1, by omega, by go_num, trivial⟩
          case measure => simp [intOf]; omega

theorem walk (a0 : ByteArray) (w0 : a0.size ≤ maxLen) (w : World) :
    Calls Try.prog 3 #[.string a0] w fun e w' => e = .returned (.bool true) ∧ Below w.heap.size w w' := by
  by_cases h : a0.size ≤ 1048576
  · exact good a0 w h
  · exact big a0 w (by omega)

set_option maxRecDepth 100000 in
theorem lifted (os : Os) (started : os.Started) (H : Type) (enc : TypeId × Value → H) :
    ReturnsInHanded {} Try.checked os 3 .any (Rows.fnSplitOffNextPreReleasePartIterationTilesTextSpec.pre6 enc Try.prog Try.f3 Rows.fnSplitOffNextPreReleasePartIterationTilesTextRow.domain false) (Rows.fnSplitOffNextPreReleasePartIterationTilesTextSpec.post enc Try.prog Try.f3 false true false false) := by
  refine returnsInHanded_of_change (C := Try.checked) own started (by kernel_rfl) Try.func3
    (ChangeSpec.witness6 (enc := enc) (C := Try.checked) false ⟨#[], #[.string ByteArray.empty], []⟩ 8 (by kernel_rfl) (by kernel_rfl) (by kernel_rfl) (by kernel_rfl)) ?_
  intro W base args ds gs before hval0 hW hcnd _
  have hval : ∀ (j : Nat) t v, Try.f3.params[j]? = some t → args[j]? = some v → Value.okWide Try.prog W .any base t v := hval0
  have hW' := hW
  obtain ⟨p, q, hA0, hV, rfl, hfz, hnd⟩ := hW
  have hA : DataW.TrodAll enc Try.prog W 0 (fun _ => true) true Try.f3.params.toList args.toList ds p := hA0
  rw [Try.params3] at hA hval
  obtain ⟨v0, vs0, d0, ds0, p0, q0, hargs, rfl, rfl, h0, r0⟩ := trodAll_cons hA
  obtain ⟨rfl, rfl, rfl⟩ := trodAll_nil r0
  obtain rfl : args = #[v0] := by cases args; simp_all
  obtain ⟨rfl, rfl⟩ := trodVars_none hV
  obtain ⟨a0, rfl, rfl, rfl, w0⟩ := open_string Try.underlying9 (hval 0 9 v0 rfl rfl) h0
  clear hA0 hval0
  simp only [List.append_nil] at hW'
  refine (walk a0 w0 W).mono fun e W' ⟨he, bel⟩ => ?_
  subst he
  exact ⟨_, rfl, _, _, _, [], _, [], hW', trodAll_mk1 (shut_bool Try.underlying4 _), (trodAll_cons_mk (shut_string Try.underlying9 w0) trodAll_mk0), rfl, bel.frame _, fun h => by cases h⟩

theorem over : Rows.fnSplitOffNextPreReleasePartIterationTilesTextRow.holds Try.pinned (OpenSpec.ofChange Rows.fnSplitOffNextPreReleasePartIterationTilesTextSpec) :=
  OpenClaim.holds_of_wide 3 Try.f3 rfl rfl rfl rfl rfl rfl rfl ⟨rfl, rfl, rfl, rfl, rfl⟩ rfl rfl rfl rfl rfl (by kernel_rfl) Try.func3 (by kernel_rfl)
    (of_decide_eq_true (by kernel_rfl)) (by unfold Func.isWrapper; first | (rw [if_pos (by decide +kernel)]; kernel_rfl) | (rw [if_neg (by decide +kernel)]; exact ⟨rfl, rfl⟩))
    (fun os started H enc _ => lifted os started H enc)

/-- THE STATEMENT -/
theorem proved : Rows.FnSplitOffNextPreReleasePartIterationTilesTextSaid :=
  over
#print axioms proved
end Go.Proofs.Ytgjddkhmkaedgaa.fnSplitOffNextPreReleasePartIterationTilesText
