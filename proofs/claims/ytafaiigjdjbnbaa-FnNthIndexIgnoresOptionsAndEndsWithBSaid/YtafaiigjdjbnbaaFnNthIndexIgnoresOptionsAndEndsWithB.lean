/-
  For any texts A and B the law FnNthIndexIgnoresOptionsAndEndsWithB returns true: the output of printNthIndex is the same under all four option settings, ends with B, is at most len(A)+len(B)+2 long, is B alone when A is empty, and otherwise has 'n' just before B, with a '+' between them unless B is empty or starts with '-' (beyond its length bounds it returns true too). No conditions.
-/
import Derived.Test.YtafaiigjdjbnbaaRows
import Derived.WalkKit
import Derived.ProofKit
import Derived.OpenShut
import Derived.Below
import Derived.ChangeOld
import Derived.ShutString
import Derived.Lib.SlBytesRow
import Derived.Laws.BytesArg
import Derived.Test.YtafaiigjdjbnbaaPr
namespace Go.Proofs.Ytafaiigjdjbnbaa.fnNthIndexIgnoresOptionsAndEndsWithB
open Go.ChangeShapes Go.WideShapes Go.ChangeAt Go.RowKit
open Go.ChangeMaps (open_string shut_string)
set_option linter.unusedVariables false

theorem own : ownKnob Try.prog.godebug = none := by kernel_rfl

theorem bytes_yes (a b : ByteArray) (w : World) (h : a.size + b.size ≤ 1048576) : Calls Try.prog 5 #[.string a, .string b] w fun e w' => e = .returned (.bool true) ∧ w' = w := by
  have h0 : a.size ≤ 1048576 := by omega
  have h1 : b.size ≤ 1048576 := by omega
  go_enter Try.func5, Try.ntmps5
  go_wp2
  go_ret
  exact ⟨rfl, rfl⟩
theorem bytes_no (a b : ByteArray) (w : World) (h : 1048576 < a.size + b.size) (m0 : a.size ≤ maxLen) (m1 : b.size ≤ maxLen) : Calls Try.prog 5 #[.string a, .string b] w fun e w' => e = .returned (.bool false) ∧ w' = w := by
  unfold maxLen at m0 m1
  by_cases h0 : a.size ≤ 1048576
  rotate_left
  · go_enter Try.func5, Try.ntmps5
    go_wp2
    go_ret
    exact ⟨rfl, rfl⟩
  by_cases h1 : b.size ≤ 1048576
  all_goals
    go_enter Try.func5, Try.ntmps5
    go_wp2
    go_ret
    exact ⟨rfl, rfl⟩
theorem bad1 (a b : ByteArray) (w : World) (h : 1048576 < a.size + b.size) (m0 : a.size ≤ maxLen) (m1 : b.size ≤ maxLen) : Calls Try.prog 3 #[.string a, .string b] w fun e w' => e = .returned (.bool true) ∧ Below w.heap.size w w' := by
  go_enter Try.func3, Try.ntmps3
  go_wp2_with fail
  refine (bytes_no _ _ _ h m0 m1).mono ?_
  rintro e w1 ⟨rfl, rfl⟩
  go_wp2
  go_ret
  exact ⟨rfl, Below.refl _ _⟩
theorem bad2 (a b : ByteArray) (w : World) (h : a.size + b.size ≤ 1048576) (k : 524288 < a.size ∨ (a.size ≤ 524288 ∧ 524288 < b.size)) : Calls Try.prog 3 #[.string a, .string b] w fun e w' => e = .returned (.bool true) ∧ Below w.heap.size w w' := by
  rcases k with k | ⟨k, k1⟩
  all_goals
    go_enter Try.func3, Try.ntmps3
    go_wp2_with fail
    refine (bytes_yes _ _ _ h).mono ?_
    rintro e w1 ⟨rfl, rfl⟩
    go_wp2
    go_ret
    exact ⟨rfl, Below.refl _ _⟩
/-- a byte slice of the call's own, turned into a string -/
theorem conv_own {w : World} {B : Nat} {ao : Option Addr} {n c : Nat} {O : ByteArray} (h : Own .u8 5 w B (.slice ao n c) (byt O)) : (convert 27 9 (.slice ao n c)).run Try.prog w = .ok (.string O) w := by
  obtain ⟨ao', cap', e, hin, _, hf⟩ := h.form
  cases e
  rw [byt_length]
  rcases hf with ⟨rfl, hz, _⟩ | ⟨g, rfl, _, _⟩
  · have hs : O.size = 0 := by rw [← byt_length, hz]; rfl
    have : O = ByteArray.empty := by
      apply ByteArray.ext
      exact (Array.eq_empty_of_size_eq_zero hs).trans rfl
    rw [this]
    exact run_convert_bytes_nil w 27 5 Try.underlying27 Try.underlying5 _ _ 9 Try.underlying9
  · refine Lib.run_convert_whole (P := Try.prog) w 27 5 9 Try.underlying27 Try.underlying5 Try.underlying9 g 0 O ?_ c
    intro i hi
    rcases hin with h | ⟨b, off, hx, _, hc⟩
    · have := byt_length O; rw [h] at this; simp at this; omega
    · cases hx
      rw [hc i (by rw [byt_length]; exact hi)]
      have : nth (byt O) i = ((O[i]'hi).toNat : Int) := by
        have hl : i < O.data.toList.length := by rw [size_list]; exact hi
        rw [nth_get _ _ (by rw [byt_length]; exact hi)]
        simp [byt]; rfl
      rw [this]
noncomputable def z23 : Array Value := cellsOf ((zeroValue 23).run Try.prog default)
/-- the four answers, k of them there -/
def outs (O : ByteArray) (k : Nat) : Array Value := (List.replicate k (Value.string O) ++ List.replicate (4 - k) (Value.string ⟨#[]⟩)).toArray
theorem outs_set (O : ByteArray) (k : Nat) (hk : k < 4) : (outs O k).setIfInBounds k (.string O) = outs O (k + 1) := by
  rcases (show k = 0 ∨ k = 1 ∨ k = 2 ∨ k = 3 by omega) with rfl | rfl | rfl | rfl <;> rfl
theorem outs_at (O : ByteArray) (k : Nat) (hk : k < 4) : (outs O k)[k]? = some (.string ⟨#[]⟩) := by
  rcases (show k = 0 ∨ k = 1 ∨ k = 2 ∨ k = 3 by omega) with rfl | rfl | rfl | rfl <;> rfl
theorem outs_end (O : ByteArray) (k : Nat) (hk : k < 4) : (outs O 4)[k]? = some (.string O) := by
  rcases (show k = 0 ∨ k = 1 ∨ k = 2 ∨ k = 3 by omega) with rfl | rfl | rfl | rfl <;> rfl
theorem str_list (a b O : ByteArray) (hO : O = nthStr a b) : O.data.toList = nthPre a b ++ b.data.toList := by rw [hO]; simp [nthStr]
theorem str_size (a b O : ByteArray) (hO : O = nthStr a b) : O.size = (nthPre a b).length + b.size := by rw [← size_list, str_list a b O hO, List.length_append, size_list]
theorem pre_le (a b : ByteArray) : (nthPre a b).length ≤ a.size + 2 := by
  unfold nthPre
  by_cases a0 : a.data.toList = []
  · rw [if_pos a0]; simp
  · have ha : 0 < a.size := by rw [← size_list]; exact List.length_pos_iff.2 a0
    rw [if_neg a0, List.length_append, List.length_cons]
    have h1 : (if a.data.toList = [45, 49] then [45] else if a.data.toList = [49] then [] else a.data.toList).length ≤ a.size := by
      split
      · simp; omega
      · split
        · simp
        · rw [size_list]; exact Nat.le_refl _
    have h2 : (if b.data.toList = [] ∨ Lib.hasPrefix b.data.toList [45] = true then ([] : List UInt8) else [43]).length ≤ 1 := by split <;> simp
    omega
theorem byte_of (s : ByteArray) (i : Nat) (h : i < s.size) (c : UInt8) (hc : s.data.toList[i]? = some c) : (s[i]'h).toNat = c.toNat := by
  have hl : i < s.data.toList.length := by rw [size_list]; exact h
  rw [List.getElem?_eq_getElem hl] at hc
  rw [← Option.some.inj hc]; rfl
/-- the facts that every way shares: the place where b begins -/
theorem nth_facts (a b O : ByteArray) (hO : O = nthStr a b) : ∃ kk : Nat, kk + b.size ≤ O.size ∧ O.size ≤ kk + b.size ∧ kk ≤ a.size + 2 ∧ ((O.extract kk O.size).toList == b.toList) = true := by
  refine ⟨(nthPre a b).length, by rw [str_size a b O hO]; omega, by rw [str_size a b O hO]; omega, pre_le a b, ?_⟩
  have e : (O.extract (nthPre a b).length O.size).toList = b.toList := by
    rw [toList_data', toList_data', Lib.extract_data, str_list a b O hO, str_size a b O hO]
    rw [List.drop_left]
    exact List.take_of_length_le (by rw [size_list]; omega)
  rw [e]; simp
theorem nth_ways (a b O : ByteArray) (hO : O = nthStr a b) :
    (a = ⟨#[]⟩ ∧ (O.toList == b.toList) = true) ∨
    ((a.toList.isEmpty = false) ∧ (¬ a.toList = []) ∧ b = ⟨#[]⟩ ∧ ∃ (j : Nat) (hj : j < O.size), O.size = j + 1 ∧ (((O[j]'hj).toNat : Int) == 110) = true) ∨
    ((a.toList.isEmpty = false) ∧ (¬ a.toList = []) ∧ (b.toList.isEmpty = false) ∧ (¬ b.toList = []) ∧ ∃ (j : Nat) (hj : j < O.size), O.size = j + 1 + b.size ∧ (((O[j]'hj).toNat : Int) == 110) = true ∧ ∃ hb : 0 < b.size, (((b[0]'hb).toNat : Int) == 45) = true) ∨
    ((a.toList.isEmpty = false) ∧ (¬ a.toList = []) ∧ (b.toList.isEmpty = false) ∧ (¬ b.toList = []) ∧ ∃ (j : Nat) (hj : j < O.size) (hj' : j + 1 < O.size), O.size = j + 2 + b.size ∧ (((O[j]'hj).toNat : Int) == 110) = true ∧ (((O[j + 1]'hj').toNat : Int) == 43) = true ∧ ∃ hb : 0 < b.size, (((b[0]'hb).toNat : Int) == 45) = false) := by
  have hl := str_list a b O hO
  have hs := str_size a b O hO
  by_cases a0 : a.data.toList = []
  · left
    refine ⟨ba_of_list a0, ?_⟩
    rw [toList_data', toList_data', hl, nthPre, if_pos a0]; simp
  · have g1 : a.toList.isEmpty = false := by rw [toList_data']; simpa using a0
    have g2 : ¬ a.toList = [] := by rw [toList_data']; exact a0
    right
    obtain ⟨q, hq⟩ : ∃ q, q = (if a.data.toList = [45, 49] then [45] else if a.data.toList = [49] then [] else a.data.toList) := ⟨_, rfl⟩
    by_cases b0 : b.data.toList = []
    · left
      have hp : nthPre a b = q ++ [110] := by rw [nthPre, if_neg a0, ← hq, if_pos (.inl b0)]
      have hb : b.size = 0 := by rw [← size_list, b0]; rfl
      rw [hp, List.length_append, hb] at hs
      simp only [List.length_cons, List.length_nil] at hs
      refine ⟨g1, g2, ba_of_list b0, q.length, by omega, by omega, ?_⟩
      rw [byte_of O q.length (by omega) 110 (by rw [hl, hp, b0]; simp)]; rfl
    · have g3 : b.toList.isEmpty = false := by rw [toList_data']; simpa using b0
      have g4 : ¬ b.toList = [] := by rw [toList_data']; exact b0
      have hb : 0 < b.size := by rw [← size_list]; exact List.length_pos_iff.2 b0
      obtain ⟨c, t, hct⟩ := List.exists_cons_of_ne_nil b0
      have hbc : (b[0]'hb).toNat = c.toNat := byte_of b 0 hb c (by rw [hct]; rfl)
      right
      by_cases hc : c = 45
      · left
        have hp : nthPre a b = q ++ [110] := by rw [nthPre, if_neg a0, ← hq, if_pos (.inr (by rw [hct, hc]; simp [Lib.hasPrefix]))]
        rw [hp, List.length_append] at hs
        simp only [List.length_cons, List.length_nil] at hs
        refine ⟨g1, g2, g3, g4, q.length, by omega, by omega, ?_, hb, ?_⟩
        · rw [byte_of O q.length (by omega) 110 (by rw [hl, hp]; simp)]; rfl
        · rw [hbc, hc]; rfl
      · right
        have hp : nthPre a b = q ++ [110, 43] := by
          rw [nthPre, if_neg a0, ← hq, if_neg (fun h => by
            rcases h with h | h
            · exact b0 h
            · rw [hct] at h; simp [Lib.hasPrefix] at h; exact hc h.symm)]
        rw [hp, List.length_append] at hs
        simp only [List.length_cons, List.length_nil] at hs
        refine ⟨g1, g2, g3, g4, q.length, by omega, by omega, by omega, ?_, ?_, hb, ?_⟩
        · rw [byte_of O q.length (by omega) 110 (by rw [hl, hp]; simp)]; rfl
        · rw [byte_of O (q.length + 1) (by omega) 43 (by rw [hl, hp]; simp)]; rfl
        · rw [hbc]
          have : c.toNat ≠ 45 := fun h => hc (UInt8.toNat_inj.1 h)
          simp; omega
set_option maxHeartbeats 2000000 in
theorem good (a b : ByteArray) (w : World) (h : a.size ≤ 524288) (h' : b.size ≤ 524288) : Calls Try.prog 3 #[.string a, .string b] w fun e w' => e = .returned (.bool true) ∧ Below w.heap.size w w' := by
  have d1 : decide ((524288 : Int) < (a.size : Int)) = false := by simp; omega
  have d2 : decide ((524288 : Int) < (b.size : Int)) = false := by simp; omega
  obtain ⟨O, hO⟩ : ∃ O, O = nthStr a b := ⟨_, rfl⟩
  have HO := Lib.hid hO
  have HW := Lib.hid (nth_ways a b O hO)
  obtain ⟨kk, hkk⟩ := nth_facts a b O hO
  obtain ⟨s1, s2, s3, s4⟩ := hkk
  clear hO
  go_enter Try.func3, Try.ntmps3
  go_wp2_with fail
  refine (bytes_yes _ _ _ (by omega)).mono ?_
  rintro e w1 ⟨rfl, rfl⟩
  go_wp2_with fail
  go_loopw [6] (fun x wr => ∃ k : Nat, k ≤ 4 ∧ x = .int .i64 k ∧ Hid (Blk wr w1.heap.size 23 (outs O k) ∧ Below w1.heap.size w1 wr)) (fun x _ => 4 - (intOf x).toNat)
  case atStart => exact ⟨0, by omega, rfl, Lib.hid ⟨Blk.new _ _ _, (Below.refl _ _).alloc (Nat.le_refl _) _⟩⟩
  case round =>
    obtain ⟨k, hk, rfl, H⟩ := hrel
    rcases (show k = 4 ∨ k < 4 by omega) with rfl | hlt
    · have q0 := (H.out.1.cell 0).trans (outs_end O 0 (by omega))
      have hlt := H.out.1.lt
      have HB := Lib.hid H.out.2
      go_wp2
      go_loopw [8] (fun x w' => ∃ j : Nat, 1 ≤ j ∧ j ≤ 4 ∧ x = .int .i64 j ∧ Hid (Blk w' w1.heap.size 23 (outs O 4) ∧ Below w1.heap.size w1 w')) (fun x _ => 4 - (intOf x).toNat)
      case atStart => exact ⟨1, by omega, by omega, rfl, H⟩
      case round =>
        obtain ⟨j, hj1, hj, rfl, H2⟩ := hrel
        have r0 := (H2.out.1.cell 0).trans (outs_end O 0 (by omega))
        have rlt := H2.out.1.lt
        clear H HB q0
        rcases (show j = 4 ∨ j < 4 by omega) with rfl | hjt
        · have e1 : (O.size : Int) - (b.size : Int) = (kk : Int) := by omega
          rcases HW.out with ⟨rfl, g1⟩ | ⟨g1, g2, rfl, j, hj, g3, g4⟩ | ⟨g1, g2, g0, g5, j, hj, g3, g4, hb0, g6⟩ | ⟨g1, g2, g0, g5, j, hj, hj', g3, g4, g7, hb0, g6⟩
          · have sz0 : (⟨#[]⟩ : ByteArray).size = 0 := rfl
            rw [sz0] at s3
            clear sz0
            go_wp2
            go_ret
            exact ⟨rfl, H2.out.2⟩
          · have sz0 : (⟨#[]⟩ : ByteArray).size = 0 := rfl
            rw [sz0] at e1 s1 s2
            have hO1 : O.size - 1 < O.size := by clear g3; omega
            have g4' : (((O[O.size - 1]'hO1).toNat : Int) == 110) = true := by
              obtain rfl : j = O.size - 1 := by omega
              exact g4
            clear g3 sz0
            go_wp2
            go_ret
            exact ⟨rfl, H2.out.2⟩
          · obtain rfl : kk = j + 1 := by omega
            clear g3
            go_wp2
            go_ret
            exact ⟨rfl, H2.out.2⟩
          · obtain rfl : kk = j + 2 := by omega
            clear g3
            go_wp2
            go_ret
            exact ⟨rfl, H2.out.2⟩
        · have rj := (H2.out.1.cell j).trans (outs_end O j hjt)
          have i0 : (0 : Int) ≤ (j : Int) := by omega
          have i1 : (j : Int) < 4 := by omega
          go_wp2
          go_quiet (fail)
          go_wp2
          go_roundw
          case rel => exact ⟨j + 1, by omega, by omega, by go_num, Lib.hid ⟨H2.out.1.kept (below_drewN (Below.refl _ _) _), below_drewN H2.out.2 _⟩⟩
          case measure => simp [intOf]; omega
    · have hsz := H.out.2.size
      have hbl := H.out.1.lt
      go_wp2_with fail
      refine (new276_any _ _ _).mono ?_
      rintro en w2 ⟨rfl, hp2, b2⟩
      have H2 := Lib.hid (And.intro hp2 b2)
      have z2 := b2.size
      have hpl2 : wr.heap.size < w2.heap.size := by
        obtain ⟨_, _, hb, _⟩ := hp2
        exact hb.lt
      clear hp2 b2
      go_wp2_with fail
      refine (zznth_any wr.heap.size wr.heap.size _ _ _ _ _ _ a b _ H2.out.1 (by simp; omega) z2 hpl2).mono ?_
      rintro en w3 ⟨rfl, hp3, b3, k3⟩
      rw [List.nil_append, ← HO.out] at hp3
      have H3 := Lib.hid (And.intro hp3 (H2.out.2.trans b3))
      have z3 := b3.size
      clear hp3 b3 k3
      go_wp2_with fail
      refine (css276_any wr.heap.size wr.heap.size _ _ _ _ _ _ _ H3.out.1).mono ?_
      rintro en w4 ⟨⟨v, rfl, ho⟩, rfl⟩
      obtain ⟨ao, c, rfl, _, _, _⟩ := ho.form
      have hcv := conv_own ho
      have hb3 := H.out.1.below H3.out.2 hbl
      have q0 := (hb3.cell k).trans (outs_at O k hlt)
      have f0 := hb3.free k
      have hb4 := hb3.set k (.string O)
      rw [outs_set O k hlt] at hb4
      have HZ := Lib.hid (And.intro hb4 ((below_then H.out.2 (H3.out.2.mono (Nat.le_refl _)) hsz).setCell (p := ⟨w1.heap.size, k, none⟩) (Nat.le_refl _) (.string O)))
      have i0 : (0 : Int) ≤ (k : Int) := by omega
      have i1 : (k : Int) < 4 := by omega
      have hbl3 := hb3.lt
      clear ho hb3 hb4
      go_wp2
      go_roundw
      case rel => exact ⟨k + 1, by omega, by go_num, HZ⟩
      case measure => simp [intOf]; omega

theorem walk (a0 : ByteArray) (a1 : ByteArray) (w0 : a0.size ≤ maxLen) (w1 : a1.size ≤ maxLen) (w : World) :
    Calls Try.prog 3 #[.string a0, .string a1] w fun e w' => e = .returned (.bool true) ∧ Below w.heap.size w w' := by
  by_cases hs : a0.size + a1.size ≤ 1048576
  rotate_left
  · exact bad1 _ _ _ (by omega) w0 w1
  by_cases hg : a0.size ≤ 524288 ∧ a1.size ≤ 524288
  · exact good _ _ w hg.1 hg.2
  · exact bad2 _ _ _ hs (by omega)

set_option maxRecDepth 100000 in
theorem lifted (os : Os) (started : os.Started) (H : Type) (enc : TypeId × Value → H) :
    ReturnsInHanded {} Try.checked os 3 .any (Rows.fnNthIndexIgnoresOptionsAndEndsWithBSpec.pre6 enc Try.prog Try.f3 Rows.fnNthIndexIgnoresOptionsAndEndsWithBRow.domain false) (Rows.fnNthIndexIgnoresOptionsAndEndsWithBSpec.post enc Try.prog Try.f3 false true false false) := by
  refine returnsInHanded_of_change (C := Try.checked) own started (by kernel_rfl) Try.func3
    (ChangeSpec.witness6 (enc := enc) (C := Try.checked) false ⟨#[], #[.string ByteArray.empty, .string ByteArray.empty], []⟩ 8 (by kernel_rfl) (by kernel_rfl) (by kernel_rfl) (by kernel_rfl)) ?_
  intro W base args ds gs before hval0 hW hcnd _
  have hval : ∀ (j : Nat) t v, Try.f3.params[j]? = some t → args[j]? = some v → Value.okWide Try.prog W .any base t v := hval0
  have hW' := hW
  obtain ⟨p, q, hA0, hV, rfl, hfz, hnd⟩ := hW
  have hA : DataW.TrodAll enc Try.prog W 0 (fun _ => true) true Try.f3.params.toList args.toList ds p := hA0
  rw [Try.params3] at hA hval
  obtain ⟨v0, vs0, d0, ds0, p0, q0, hargs, rfl, rfl, h0, r0⟩ := trodAll_cons hA
  obtain ⟨v1, vs1, d1, ds1, p1, q1, rfl, rfl, rfl, h1, r1⟩ := trodAll_cons r0
  obtain ⟨rfl, rfl, rfl⟩ := trodAll_nil r1
  obtain rfl : args = #[v0, v1] := by cases args; simp_all
  obtain ⟨rfl, rfl⟩ := trodVars_none hV
  obtain ⟨a0, rfl, rfl, rfl, w0⟩ := open_string Try.underlying9 (hval 0 9 v0 rfl rfl) h0
  obtain ⟨a1, rfl, rfl, rfl, w1⟩ := open_string Try.underlying9 (hval 1 9 v1 rfl rfl) h1
  clear hA0 hval0
  simp only [List.append_nil] at hW'
  refine (walk a0 a1 w0 w1 W).mono fun e W' ⟨he, bel⟩ => ?_
  subst he
  exact ⟨_, rfl, _, _, _, [], _, [], hW', trodAll_mk1 (shut_bool Try.underlying4 _), (trodAll_cons_mk (shut_string Try.underlying9 w0) (trodAll_cons_mk (shut_string Try.underlying9 w1) trodAll_mk0)), rfl, bel.frame _, fun h => by cases h⟩

theorem over : Rows.fnNthIndexIgnoresOptionsAndEndsWithBRow.holds Try.pinned (OpenSpec.ofChange Rows.fnNthIndexIgnoresOptionsAndEndsWithBSpec) :=
  OpenClaim.holds_of_wide 3 Try.f3 rfl rfl rfl rfl rfl rfl rfl ⟨rfl, rfl, rfl, rfl, rfl⟩ rfl rfl rfl rfl rfl (by kernel_rfl) Try.func3 (by kernel_rfl)
    (of_decide_eq_true (by kernel_rfl)) (by unfold Func.isWrapper; first | (rw [if_pos (by decide +kernel)]; kernel_rfl) | (rw [if_neg (by decide +kernel)]; exact ⟨rfl, rfl⟩))
    (fun os started H enc _ => lifted os started H enc)

/-- THE STATEMENT -/
theorem proved : Rows.FnNthIndexIgnoresOptionsAndEndsWithBSaid :=
  over
#print axioms proved
end Go.Proofs.Ytafaiigjdjbnbaa.fnNthIndexIgnoresOptionsAndEndsWithB
