/-
  FnDecodeEscapesJSONRefusesNonJSONEscapes' walk at this seat. No statement of the seat is proved here.
-/
import Derived.Test.YtngdaapimgfaiaaDoorDe
import Derived.Test.YtngdaapimgfaiaaDoorOwnStr
import Derived.Test.YtngdaapimgfaiaaDoorReg
import Derived.Lib.Strings
import Derived.Lib.SlBytesRow
import Derived.Laws.BytesArg
namespace Go.Proofs.YtngdaapimgfaiaaDoor
open Go.RowKit
set_option linter.unusedVariables false
def SomeBool (e : Ending) : Prop := ∃ b : Bool, e = .returned (.bool b)
set_option maxHeartbeats 1000000 in
theorem zb_any (st : Int) (a : ByteArray) (c : Int) (d : ByteArray) (w : World) (ha : a.size ≤ maxLen) (hd : d.size ≤ maxLen) : Calls Tryd.prog 4 #[.int .i64 st, .string a, .int .u8 c, .string d] w fun e w' => SomeBool e ∧ w = w' := by
  unfold maxLen at ha hd
  by_cases h1 : a.size ≤ 1048576
  · by_cases h2 : d.size ≤ 1048576
    · by_cases h3 : a.size + d.size ≤ 1048576
      · go_enter Tryd.func4, Tryd.ntmps4
        go_wp2_with fail
        go_ret
        exact ⟨⟨true, rfl⟩, rfl⟩
      · go_enter Tryd.func4, Tryd.ntmps4
        go_wp2_with fail
        go_ret
        exact ⟨⟨false, rfl⟩, rfl⟩
    · go_enter Tryd.func4, Tryd.ntmps4
      go_wp2_with fail
      go_ret
      exact ⟨⟨false, rfl⟩, rfl⟩
  · go_enter Tryd.func4, Tryd.ntmps4
    go_wp2_with fail
    go_ret
    exact ⟨⟨false, rfl⟩, rfl⟩

def AccB (c : Nat) (b : Bool) : Prop := (b = true ∧ Acc c) ∨ (b = false ∧ ¬ Acc c)
def IsAcc (c : Nat) (e : Ending) : Prop := ∃ b, e = .returned (.bool b) ∧ AccB c b
set_option maxHeartbeats 2000000 in
theorem acc_any (c : Nat) (w : World) (hc : c < 256) : Calls Tryd.prog 5 #[.int .u8 c] w fun e w' => IsAcc c e ∧ w = w' := by
  rcases (show c = 98 ∨ c = 102 ∨ c = 110 ∨ c = 114 ∨ c = 116 ∨ c = 117 ∨ c = 56 ∨ c = 57 ∨ c = 34 ∨ c = 92 ∨ c = 47 ∨ (c ≠ 98 ∧ c ≠ 102 ∧ c ≠ 110 ∧ c ≠ 114 ∧ c ≠ 116 ∧ c ≠ 117 ∧ c ≠ 56 ∧ c ≠ 57 ∧ c ≠ 34 ∧ c ≠ 92 ∧ c ≠ 47) by omega) with rfl | rfl | rfl | rfl | rfl | rfl | rfl | rfl | rfl | rfl | rfl | ho
  case inr.inr.inr.inr.inr.inr.inr.inr.inr.inr.inr =>
    have HA : Hid (¬ Acc c) := Lib.hid (by unfold Acc; omega)
    have q1 : ((c : Int) == 98) = false := beq_eq_false_iff_ne.2 (by omega)
    have q2 : ((c : Int) == 102) = false := beq_eq_false_iff_ne.2 (by omega)
    have q3 : ((c : Int) == 110) = false := beq_eq_false_iff_ne.2 (by omega)
    have q4 : ((c : Int) == 114) = false := beq_eq_false_iff_ne.2 (by omega)
    have q5 : ((c : Int) == 116) = false := beq_eq_false_iff_ne.2 (by omega)
    have q6 : ((c : Int) == 117) = false := beq_eq_false_iff_ne.2 (by omega)
    have q7 : ((c : Int) == 56) = false := beq_eq_false_iff_ne.2 (by omega)
    have q8 : ((c : Int) == 57) = false := beq_eq_false_iff_ne.2 (by omega)
    have q9 : ((c : Int) == 34) = false := beq_eq_false_iff_ne.2 (by omega)
    have q10 : ((c : Int) == 92) = false := beq_eq_false_iff_ne.2 (by omega)
    have q11 : ((c : Int) == 47) = false := beq_eq_false_iff_ne.2 (by omega)
    go_enter Tryd.func5, Tryd.ntmps5
    go_wp2_with fail
    go_ret
    exact ⟨⟨false, rfl, .inr ⟨rfl, HA.out⟩⟩, rfl⟩
  all_goals
    go_enter Tryd.func5, Tryd.ntmps5
    go_wp2_with fail
    go_ret
    exact ⟨⟨true, rfl, .inl ⟨rfl, by unfold Acc; omega⟩⟩, rfl⟩

def HasB (s : ByteArray) (e : Ending) : Prop := ∃ b, e = .returned (.bool b) ∧ (b = false → ∀ j, j < s.size → byteAt s j ≠ 92)
set_option maxHeartbeats 1000000 in
theorem has_any (s : ByteArray) (w : World) (hs : s.size ≤ maxLen) : Calls Tryd.prog 6 #[.string s, .int .u8 92] w fun e w' => HasB s e ∧ w = w' := by
  unfold maxLen at hs
  go_enter Tryd.func6, Tryd.ntmps6
  go_wp2_with fail
  go_loopg [5] s.size (fun k a wr => ∃ i : Nat, a = .int .i64 (i : Int) ∧ i ≤ s.size ∧ s.size - i ≤ k ∧ Hid (∀ j, j < i → byteAt s j ≠ 92) ∧ wr = w)
  case atStart => exact ⟨0, rfl, by omega, by omega, Lib.hid (fun j h => by omega), rfl⟩
  case round =>
    obtain ⟨i, rfl, hi, hk, HN, rfl⟩ := hrel
    rcases (show s.size = i ∨ i < s.size by omega) with he | hlt
    · have h0 : decide ((i : Int) < (s.size : Int)) = false := by simp; omega
      have h00 : decide (i < s.size) = false := by simp; omega
      have HE := Lib.hid he
      clear he
      go_wp2_with fail
      go_ret
      exact ⟨⟨false, rfl, fun _ j hj => HN.out j (by rw [← HE.out]; exact hj)⟩, rfl⟩
    · have e1 := byteAt_get s i hlt
      obtain ⟨b, hb⟩ : ∃ b, byteAt s i = b := ⟨_, rfl⟩
      rw [hb] at e1
      have HB := Lib.hid hb
      clear hb
      by_cases h92 : b = 92
      · subst h92
        go_wp2_with fail
        go_ret
        exact ⟨⟨true, rfl, fun h => by cases h⟩, rfl⟩
      · have q : ((b : Int) == 92) = false := beq_eq_false_iff_ne.2 (by omega)
        have HB2 := Lib.hid h92
        clear h92
        go_wp2_with fail
        go_roundg (s.size - (i + 1))
        case measure => omega
        case rel => exact ⟨i + 1, by go_num, hlt, Nat.le_refl _, Lib.hid (fun j h => by
          rcases (show j = i ∨ j < i by omega) with rfl | h
          · rw [HB.out]; exact HB2.out
          · exact HN.out j h), rfl⟩

/-- the cells of a fresh lexer -/
noncomputable def lxCells : Array Value := cellsOf ((Instr.build 73 #[(31, .int .u8 0)]).run Tryd.prog default)
theorem lx_run (w : World) : (Instr.build 73 #[(31, .int .u8 0)]).run Tryd.prog w = .ok (.agg lxCells) w := by kernel_rfl
theorem lx_68 : lxCells[68]? = some (.int .u8 0) := by kernel_rfl

set_option maxHeartbeats 1000000 in
theorem zz_any (start : Int) (T : ByteArray) (P c : Nat) (w : World) (hP : P + 1 < T.size) (hz : T.size ≤ 2097152) (hpre : ∀ j, j < P → byteAt T j ≠ 92) (h92 : byteAt T P = 92) (hc : byteAt T (P + 1) = c) (hc128 : c < 128) (hacc : ¬ Acc c) (ht : Lib.Utf8Tabs 0 1 w) :
    Calls Tryd.prog 7 #[.int .u8 0, .int .i64 start, .string T, .bool true] w fun e w' => e = .returned (.tuple #[.slice none 0 0, .bool false, .int .i64 (wrap64 (wrap64 (start + (P + 2 : Nat)) - 1))]) ∧ Below w.heap.size w w' := by
  have w0 : 1 < w.heap.size := World.block_lt_of_cell? w ⟨1, 0, none⟩ (ht.2 0 (by decide)).1
  have hb : Blk (w.alloc (.cells lxCells 73)) w.heap.size 73 lxCells := Blk.new w 73 lxCells
  have HD := Lib.hid (de_refuse w.heap.size start T P c true (w.alloc (.cells lxCells 73)) ((hb.cell 68).trans lx_68) hP hz hpre h92 hc hc128 hacc (tabs_below ht ((Below.refl _ _).alloc (Nat.le_refl _) _) (by omega) (by omega)))
  clear hpre h92 hc hacc ht
  go_enter Tryd.func7, Tryd.ntmps7
  go_wp2_with (first
    | (go_at_call 8; refine HD.out.mono ?_; rintro e w1 ⟨rfl, hb1⟩)
    | (refine wpList_build rfl 73 _ rfl [(31, .int .u8 0)] rfl lxCells lx_run ?_))
  go_ret3
  exact ⟨rfl, below_new _ hb1⟩

/-! the text that the law makes -/
def cat3 (a : ByteArray) (c : Nat) (d : ByteArray) : ByteArray := ⟨(a.data.toList ++ [92, UInt8.ofNat c] ++ d.data.toList).toArray⟩
theorem cat3_list (a : ByteArray) (c : Nat) (d : ByteArray) : (cat3 a c d).data.toList = a.data.toList ++ [92, UInt8.ofNat c] ++ d.data.toList := by simp [cat3]
theorem size_list' (s : ByteArray) : s.data.toList.length = s.size := by simp
theorem cat3_size (a : ByteArray) (c : Nat) (d : ByteArray) : (cat3 a c d).size = a.size + 2 + d.size := by
  rw [← size_list', cat3_list]; simp; omega
theorem byteAt_list {s : ByteArray} {j : Nat} {b : UInt8} (h : s.data.toList[j]? = some b) : byteAt s j = b.toNat := by
  have hl := (List.getElem?_eq_some_iff.1 h).1
  rw [size_list'] at hl
  rw [← byteAt_get s j hl]
  have : s.data.toList[j]? = some (s[j]'hl) := by
    rw [List.getElem?_eq_getElem (by rw [size_list']; exact hl)]; rfl
  rw [this] at h
  cases h; rfl
theorem cat3_pre (a : ByteArray) (c : Nat) (d : ByteArray) (j : Nat) (hj : j < a.size) : byteAt (cat3 a c d) j = byteAt a j := by
  have h1 : a.data.toList[j]? = some (a[j]'hj) := by rw [List.getElem?_eq_getElem (by rw [size_list']; exact hj)]; rfl
  have h2 : (cat3 a c d).data.toList[j]? = some (a[j]'hj) := by
    rw [cat3_list, List.append_assoc, List.getElem?_append_left (by rw [size_list']; exact hj)]; exact h1
  rw [byteAt_list h1, byteAt_list h2]
theorem cat3_92 (a : ByteArray) (c : Nat) (d : ByteArray) : byteAt (cat3 a c d) a.size = 92 := by
  have h2 : (cat3 a c d).data.toList[a.size]? = some 92 := by
    rw [cat3_list, List.append_assoc, List.getElem?_append_right (by rw [size_list']; exact Nat.le_refl _), size_list', Nat.sub_self]; rfl
  rw [byteAt_list h2]; rfl
theorem cat3_c (a : ByteArray) (c : Nat) (d : ByteArray) (hc : c < 256) : byteAt (cat3 a c d) (a.size + 1) = c := by
  have h2 : (cat3 a c d).data.toList[a.size + 1]? = some (UInt8.ofNat c) := by
    rw [cat3_list, List.append_assoc, List.getElem?_append_right (by rw [size_list']; omega), size_list', show a.size + 1 - a.size = 1 by omega]; rfl
  rw [byteAt_list h2]
  show c % 256 = c
  omega
theorem cat3_byt (a : ByteArray) (c : Nat) (d : ByteArray) (hc : c < 256) : byt (cat3 a c d) = byt a ++ [92, (c : Int)] ++ byt d := by
  unfold byt
  rw [cat3_list, List.map_append, List.map_append]
  congr 2
  simp only [List.map_cons, List.map_nil]
  have : (UInt8.ofNat c).toNat = c := by show c % 256 = c; omega
  rw [this]; rfl

/-- a byte slice of the call's own, turned into a string -/
theorem conv_own {w : World} {B : Nat} {v : Value} {O : ByteArray} (h : Own .u8 5 w B v (byt O)) : (convert 25 9 v).run Tryd.prog w = .ok (.string O) w := by
  obtain ⟨ao', c, rfl, hin, _, hf⟩ := h.form
  rw [byt_length]
  rcases hf with ⟨rfl, hz, _⟩ | ⟨g, rfl, _, _⟩
  · have hs : O.size = 0 := by rw [← byt_length, hz]; rfl
    have : O = ByteArray.empty := by
      apply ByteArray.ext
      exact (Array.eq_empty_of_size_eq_zero hs).trans rfl
    rw [this]
    exact run_convert_bytes_nil w 25 5 Tryd.underlying25 Tryd.underlying5 _ _ 9 Tryd.underlying9
  · refine Lib.run_convert_whole (P := Tryd.prog) w 25 5 9 Tryd.underlying25 Tryd.underlying5 Tryd.underlying9 g 0 O ?_ c
    intro i hi
    rcases hin with h | ⟨b, off, hx, _, hc⟩
    · have := byt_length O; rw [h] at this; simp at this; omega
    · cases hx
      rw [hc i (by rw [byt_length]; exact hi)]
      have : nth (byt O) i = ((O[i]'hi).toNat : Int) := by
        have hl : i < O.data.toList.length := by rw [size_list']; exact hi
        rw [nth_get _ _ (by rw [byt_length]; exact hi)]
        simp [byt]; rfl
      rw [this]
theorem info5 : (Tryd.prog.info? 5).map (fun i => (i.zero, i.size, i.bytes)) = some (some (.int .u8 0), 1, 1) := by kernel_rfl

set_option maxRecDepth 100000 in
set_option maxHeartbeats 2000000 in
theorem law_any (st : Int) (a : ByteArray) (c : Nat) (d : ByteArray) (w : World) (ha : a.size ≤ maxLen) (hd : d.size ≤ maxLen) (hc : c < 256) (hst : (Lit.int .i64 st).wf = true) (ht : Lib.Utf8Tabs 0 1 w) :
    Calls Tryd.prog 3 #[.int .i64 st, .string a, .int .u8 c, .string d] w fun e w' => e = .returned (.bool true) ∧ Below w.heap.size w w' := by
  have HZ := Lib.hid (zb_any st a c d w ha hd)
  have HA := Lib.hid (acc_any c w hc)
  have HB := Lib.hid (has_any a w ha)
  have HT := Lib.hid ht
  clear ht
  go_enter Tryd.func3, Tryd.ntmps3
  go_upto_if 18 with (go_at_call 4; refine HZ.out.mono ?_; rintro e w' ⟨⟨b, rfl⟩, rfl⟩)
  cases b
  · go_wp2_with fail
    go_ret
    exact ⟨rfl, Below.refl _ _⟩
  by_cases h1 : a.size ≤ 524288
  rotate_left
  · go_wp2_with fail
    go_ret
    exact ⟨rfl, Below.refl _ _⟩
  by_cases h2 : d.size ≤ 524288
  rotate_left
  · go_wp2_with fail
    go_ret
    exact ⟨rfl, Below.refl _ _⟩
  by_cases h3 : c < 128
  rotate_left
  · go_wp2_with fail
    go_ret
    exact ⟨rfl, Below.refl _ _⟩
  have h128 : decide ((128 : Int) ≤ (c : Int)) = false := by simp; omega
  by_cases hA : Acc c
  · have HA1 : Hid (Calls Tryd.prog 5 #[.int .u8 c] w fun e w' => e = .returned (.bool true) ∧ w = w') := Lib.hid (HA.out.mono (by
      rintro e w' ⟨⟨b1, rfl, hb1⟩, rfl⟩
      rcases hb1 with ⟨rfl, _⟩ | ⟨_, h⟩
      · exact ⟨rfl, rfl⟩
      · exact absurd hA h))
    clear hA
    go_wp2_with (go_at_call 5; refine HA1.out.mono ?_; rintro e w' ⟨rfl, rfl⟩)
    go_ret
    exact ⟨rfl, Below.refl _ _⟩
  have HA1 : Hid (Calls Tryd.prog 5 #[.int .u8 c] w fun e w' => e = .returned (.bool false) ∧ w = w') := Lib.hid (HA.out.mono (by
      rintro e w' ⟨⟨b1, rfl, hb1⟩, rfl⟩
      rcases hb1 with ⟨_, h⟩ | ⟨rfl, _⟩
      · exact absurd h hA
      · exact ⟨rfl, rfl⟩))
  have HNA := Lib.hid hA
  clear hA HA
  go_upto_if 36 with (first
    | (go_at_call 5; refine HA1.out.mono ?_; rintro e w' ⟨rfl, rfl⟩)
    | (go_at_call 6; refine HB.out.mono ?_; rintro e w' ⟨⟨b2, rfl, hb2⟩, rfl⟩))
  cases b2
  rotate_left
  · go_wp2_with fail
    go_ret
    exact ⟨rfl, Below.refl _ _⟩
  have HNO : Hid (∀ j, j < a.size → byteAt a j ≠ 92) := Lib.hid (hb2 rfl)
  clear hb2 HB HA1
  obtain ⟨n0, hn0⟩ : ∃ n : Nat, a.size + 2 + d.size = n := ⟨_, rfl⟩
  have hn0i : (a.size : Int) + 2 + (d.size : Int) = (n0 : Int) := by omega
  have hnil : ∀ w : World, (binOp .eql 26 (.slice none 0 0) (.slice none 0 0)).run Tryd.prog w = .ok (.bool true) w := fun w => by kernel_rfl
  have heq : (wrap64 (wrap64 (st + ((a.size : Int) + 2)) - 1) == wrap64 (wrap64 (st + (a.size : Int)) + 1)) = true := by rw [beq_iff_eq]; unfold wrap64; omega
  have hw1 : 1 < w.heap.size := World.block_lt_of_cell? w ⟨1, 0, none⟩ (HT.out.2 0 (by decide)).1
  have HZZ4 : ∀ w4 : World, Below w.heap.size w w4 → Hid (Calls Tryd.prog 7 #[.int .u8 0, .int .i64 st, .string (cat3 a c d), .bool true] w4 fun e w' => e = .returned (.tuple #[.slice none 0 0, .bool false, .int .i64 (wrap64 (wrap64 (st + (a.size + 2 : Nat)) - 1))]) ∧ Below w4.heap.size w4 w') := fun w4 hb => Lib.hid
    (zz_any st (cat3 a c d) a.size c w4 (by rw [cat3_size]; omega) (by rw [cat3_size]; omega) (fun j hj => by rw [cat3_pre a c d j hj]; exact HNO.out j hj) (cat3_92 a c d) (cat3_c a c d hc) h3 HNA.out (tabs_below HT.out hb (by omega) hw1))
  obtain ⟨i0, hi0, hz0, hz1, hz2⟩ := info_parts info5
  go_wp2_with (first
    | (at_make; refine wpList_make_own w rfl _ _ 25 rfl w.heap.size 5 i0 (.int .u8 0) 1 Tryd.underlying25 hi0 hz0 hz1 .i64 .i64 (n0 : Int) n0 rfl rfl rfl (by rw [hz2]; omega) (by unfold maxLen; omega) (Nat.le_refl _) ?_; intro w1 ho1 hg1; have O1 : Hid (Own .u8 5 w1 w.heap.size (.slice (some ⟨w.heap.size, 0, none⟩) 0 n0) [] ∧ Below w.heap.size w w1) := Lib.hid ⟨ho1, (Below.refl _ _).grown hg1 (Nat.le_refl _) (fun k hk => by cases hk)⟩; have hz1' := O1.out.2.size; clear ho1 hg1)
    | (at_builtin; refine wpList_push_string w1 rfl (.tmp 44) (.tmp 45) 25 9 rfl w.heap.size 5 Tryd.underlying25 Tryd.underlying9 info5 _ [] rfl O1.out.1 a rfl (by simp; omega) hz1' ?_; intro v2 w2 ho2 hg2; have O2 : Hid (Own .u8 5 w2 w.heap.size v2 (byt a) ∧ Below w.heap.size w w2) := Lib.hid ⟨by simpa using ho2, O1.out.2.grown hg2.1 hz1' (fun x e => (O1.out.1.lt x e).1)⟩; have hz2' := O2.out.2.size; clear ho2 hg2)
    | (at_builtin; refine wpList_push2 w2 rfl (.tmp 47) (.tmp 49) 25 rfl w.heap.size 5 .u8 1 Tryd.underlying25 info5 v2 (byt a) 92 (c : Int) rfl O2.out.1 rfl (by rw [byt_length]; unfold maxLen; omega) (by rw [byt_length]; omega) hz2' ?_; intro v3 w3 ho3 hg3; have O3 : Hid (Own .u8 5 w3 w.heap.size v3 (byt a ++ [92, (c : Int)]) ∧ Below w.heap.size w w3) := Lib.hid ⟨ho3, O2.out.2.grown hg3.1 hz2' (fun x e => (O2.out.1.lt x e).1)⟩; have hz3' := O3.out.2.size; clear ho3 hg3)
    | (at_builtin; refine wpList_push_string w3 rfl (.tmp 51) (.tmp 52) 25 9 rfl w.heap.size 5 Tryd.underlying25 Tryd.underlying9 info5 v3 (byt a ++ [92, (c : Int)]) rfl O3.out.1 d rfl (by simp [byt_length]; omega) hz3' ?_; intro v4 w4 ho4 hg4; have O4 : Hid (Own .u8 5 w4 w.heap.size v4 (byt (cat3 a c d)) ∧ Below w.heap.size w w4) := Lib.hid ⟨by rw [cat3_byt a c d hc]; exact ho4, O3.out.2.grown hg4.1 hz3' (fun x e => (O3.out.1.lt x e).1)⟩; have hz4' := O4.out.2.size; have hcv := conv_own O4.out.1; clear ho4 hg4)
    | (go_at_call 7; refine HZZ4 w4 O4.out.2 |>.out.mono ?_; rintro e w5 ⟨rfl, hb5⟩; have H5 := Lib.hid (O4.out.2.trans (hb5.mono hz4')); clear hb5))
  go_ret
  exact ⟨rfl, H5.out⟩
end Go.Proofs.YtngdaapimgfaiaaDoor
