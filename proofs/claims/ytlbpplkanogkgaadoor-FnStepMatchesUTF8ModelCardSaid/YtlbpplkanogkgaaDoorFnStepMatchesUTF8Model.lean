/-
  For every text, offset and starting count the law FnStepMatchesUTF8Model returns true: one step of the js lexer reads the code point that an independent UTF-8 decoder finds at the offset, moves on by its width and counts a newline exactly when it read one (outside its bounds the law returns true too). The card ties the decoder's tables to the program's text.
-/
import Derived.Test.YtlbpplkanogkgaaDoorCards
import Derived.Test.YtlbpplkanogkgaaDoorTie
import Derived.WalkKit
import Derived.ProofKit
import Derived.OpenShut
import Derived.ShutString
import Derived.ChangeOld
import Derived.Below
import Derived.Deep.DeepHandedRow
import Derived.Deep.DeepWitnessRowRef
import Derived.Lib.LaidIn
import Derived.Lib.LaidSlice
import Derived.Lib.LaidU8
import Derived.PinnedBridge
import Derived.OpenVars
import Derived.Lib.LaidU8T
import Derived.PinnedBridge
import Derived.Test.YtlbpplkanogkgaaDoorZz
import Derived.Test.YtlbpplkanogkgaaDoorJsStep
namespace Go.Proofs.YtlbpplkanogkgaaDoor.fnStepMatchesUTF8Model
open Go.ChangeShapes Go.WideShapes Go.ChangeAt Go.RowKit
open Go.ChangeMaps (open_string shut_string)
set_option linter.unusedVariables false

theorem own : ownKnob Tryd.prog.godebug = none := by kernel_rfl
theorem laidOut : laidOutB Tryd.prog = true := by kernel_rfl

def u8ren : Go.Shelf.Ren := ⟨fun n => n, fun | 119 => 165 | 138 => 167 | 139 => 168 | n => n, fun | 3 => 0 | 4 => 1 | n => n⟩
theorem u8types : U8Types Tryd.prog u8ren := ⟨Tryd.underlying5, Tryd.underlying165, Tryd.underlying167, Tryd.underlying168⟩
theorem u8extra : U8Extra Tryd.prog u8ren := ⟨by kernel_rfl, by kernel_rfl, by kernel_rfl, by kernel_rfl, by kernel_rfl, by kernel_rfl, by kernel_rfl⟩
def Stepped (w : World) (p : Nat) (s : ByteArray) (c n : Nat) (v : Int) (W k : Nat) (r : Ending) (w' : World) : Prop :=
  r = .returned (.tuple #[]) ∧ Js w' p s (c + W : Nat) c (n + k : Nat) v ∧ w.grownBy w' (some p)
theorem zstep (p : Nat) (s : ByteArray) (c : Nat) (e : Int) (n : Nat) (cp : Int) (w : World) (h : Js w p s c e n cp) (hc : c ≤ s.size) (hs : s.size ≤ 1048576) (hn : n ≤ 1099511627776) (ht : Lib.Utf8Tabs 0 1 w) (v : Int) (W k : Nat)
    (hd : decAt s c = (v, W)) (hk : (v = 10 ∧ k = 1) ∨ (v ≠ 10 ∧ k = 0)) : Calls Tryd.prog 12 #[.pointer (some ⟨p, 0, none⟩)] w (Stepped w p s c n v W k) := by
  have key : Calls Tryd.prog 53 #[.pointer (some ⟨p, 0, none⟩)] w (Stepped w p s c n v W k) := by
    by_cases hl : c < s.size
    · have hw := width_le s c hl
      have hd' : decAt s c = (((Utf8.decode s c).1 : Int), (Utf8.decode s c).2) := by unfold decAt; rw [if_pos hl]
      rw [hd'] at hd
      cases hd
      rcases hk with ⟨h10, rfl⟩ | ⟨h10, rfl⟩
      · have h11 : (Utf8.decode s c).1 = 10 := by omega
        refine (js_step1 p s c e n cp w h hc hs hn ht _ (by rw [dec_ext _ _ hl]; exact Prod.ext h11 rfl) hw.1 hw.2).mono ?_
        rintro r w' ⟨h1, h2, h3⟩
        rw [h10]
        exact ⟨h1, h2, h3⟩
      · refine (js_step0 p s c e n cp w h hc hs hn ht _ _ (dec_ext _ _ hl) hw.1 hw.2 (beq_eq_false_iff_ne.2 h10)).mono ?_
        rintro r w' ⟨h1, h2, h3⟩
        exact ⟨h1, h2, h3⟩
    · have hd' : decAt s c = (-1, 0) := by unfold decAt; rw [if_neg hl]
      rw [hd'] at hd
      cases hd
      rcases hk with ⟨h10, rfl⟩ | ⟨h10, rfl⟩
      · omega
      · refine (js_step2 p s c e n cp w h hc hs hn ht (dec_ext_end _ _ (by omega))).mono ?_
        rintro r w' ⟨h1, h2, h3⟩
        exact ⟨h1, h2, h3⟩
  have K := Lib.hid key
  clear key hd hk h ht hc hs hn
  go_enter Tryd.func12, Tryd.ntmps12
  go_wp2_with fail
  refine K.out.mono ?_
  rintro r w' ⟨rfl, h2, h3⟩
  have H := Lib.hid (And.intro h2 h3)
  clear h2 h3
  go_wp2
  go_end0
  exact ⟨rfl, H.out.1, H.out.2⟩
theorem tabs_below {g3 g4 B : Nat} {w w' : World} (h : Lib.Utf8Tabs g3 g4 w) (hb : Below B w w') (h3 : g3 < B) (h4 : g4 < B) : Lib.Utf8Tabs g3 g4 w' :=
  ⟨fun c hc => (hb.cell (p := ⟨g3, c, none⟩) h3).trans (h.1 c hc), fun i hi => ⟨(hb.cell (p := ⟨g4, 2 * i, none⟩) h4).trans (h.2 i hi).1, (hb.cell (p := ⟨g4, 2 * i + 1, none⟩) h4).trans (h.2 i hi).2⟩⟩
theorem bytes_no (s : ByteArray) (c n : Int) (w : World) (h : 1048576 < s.size) (hm : s.size ≤ maxLen) : Calls Tryd.prog 10 #[.string s, .int .i64 c, .int .i64 n] w fun r w' => r = .returned (.bool false) ∧ w' = w := by
  unfold maxLen at hm
  go_enter Tryd.func10, Tryd.ntmps10
  go_wp2
  go_ret
  exact ⟨rfl, rfl⟩
theorem bad1 (s : ByteArray) (c n : Int) (w : World) (h : 1048576 < s.size) (hm : s.size ≤ maxLen) : Calls Tryd.prog 3 #[.string s, .int .i64 c, .int .i64 n] w fun e w' => e = .returned (.bool true) ∧ Below w.heap.size w w' := by
  go_enter Tryd.func3, Tryd.ntmps3
  go_wp2_with (go_at_call 10; refine (bytes_no _ _ _ _ h hm).mono ?_; rintro e w1 ⟨rfl, rfl⟩)
  go_ret
  exact ⟨rfl, Below.refl _ _⟩
theorem bad2 (s : ByteArray) (c n : Int) (w : World) (h : s.size ≤ 1048576) (hc : c < 0 ∨ (s.size : Int) < c) : Calls Tryd.prog 3 #[.string s, .int .i64 c, .int .i64 n] w fun e w' => e = .returned (.bool true) ∧ Below w.heap.size w w' := by
  rcases (show c < 0 ∨ (0 ≤ c ∧ (s.size : Int) < c) by omega) with hc | ⟨h0, hc⟩
  all_goals
    go_enter Tryd.func3, Tryd.ntmps3
    go_wp2_with (go_at_call 10; refine (js_bytes _ _ _ _ h).mono ?_; rintro e w1 ⟨rfl, rfl⟩)
    go_ret
    exact ⟨rfl, Below.refl _ _⟩
theorem bad3 (s : ByteArray) (c n : Int) (w : World) (h : s.size ≤ 1048576) (h0 : 0 ≤ c) (hc : c ≤ (s.size : Int)) (hn : n < 0 ∨ 1073741824 < n) : Calls Tryd.prog 3 #[.string s, .int .i64 c, .int .i64 n] w fun e w' => e = .returned (.bool true) ∧ Below w.heap.size w w' := by
  rcases (show n < 0 ∨ (0 ≤ n ∧ 1073741824 < n) by omega) with hn | ⟨h0, hn⟩
  all_goals
    go_enter Tryd.func3, Tryd.ntmps3
    go_wp2_with (go_at_call 10; refine (js_bytes _ _ _ _ h).mono ?_; rintro e w1 ⟨rfl, rfl⟩)
    go_ret
    exact ⟨rfl, Below.refl _ _⟩
theorem good_end (s : ByteArray) (n : Nat) (w : World) (h : s.size ≤ 1048576) (hn : n ≤ 1073741824) (ht : Lib.Utf8Tabs 0 1 w) : Calls Tryd.prog 3 #[.string s, .int .i64 s.size, .int .i64 n] w fun e w' => e = .returned (.bool true) ∧ Below w.heap.size w w' := by
  have w0 : 1 < w.heap.size := World.block_lt_of_cell? w ⟨1, 0, none⟩ (ht.2 0 (by decide)).1
  have HT := Lib.hid ht
  clear ht
  have HD := Lib.hid (show decAt s s.size = (-1, 0) by unfold decAt; rw [if_neg (by omega)])
  go_enter Tryd.func3, Tryd.ntmps3
  go_wp2_with fail
  refine (js_bytes _ _ _ _ h).mono ?_
  rintro e w1 ⟨rfl, rfl⟩
  go_wp2_with fail
  refine (js_new _ _ _).mono ?_
  rintro e w1 ⟨p, rfl, hj, hp, hb⟩
  have hpl := hj.lt
  have f55 := hj.free 55
  have J1 := hj.set 55 (.int .i64 n)
  rw [jset55] at J1
  obtain ⟨c1, c2, c3, c4, c5⟩ := hj.facts
  have hb1 := hb.setCell (p := ⟨p, 55, none⟩) hp (.int .i64 n)
  have HJ := Lib.hid (And.intro J1 (And.intro hb1 (tabs_below HT.out hb1 (by omega) (by omega))))
  clear J1 hj hb hb1
  go_wp2_with fail
  refine (zstep p s s.size 0 n 0 _ HJ.out.1 (Nat.le_refl _) h (by omega) HJ.out.2.2 (-1) 0 0 HD.out (.inr ⟨by decide, rfl⟩)).mono ?_
  rintro e w2 ⟨rfl, h2, g2⟩
  obtain ⟨d1, d2, d3, d4, d5⟩ := h2.facts
  have HJ2 := Lib.hid (And.intro h2 g2)
  clear h2 g2
  try simp only [Nat.add_zero] at d2 d4
  go_wp2_with (first | (go_at_call 13; refine (js_end _ _ _ _ _ _ _ HJ2.out.1).mono ?_; rintro e w3 ⟨rfl, rfl⟩) | (go_at_call 14; refine (js_cp _ _ _ _ _ _ _ HJ2.out.1).mono ?_; rintro e w3 ⟨rfl, rfl⟩) | (go_at_call 15; refine (js_cur _ _ _ _ _ _ _ HJ2.out.1).mono ?_; rintro e w3 ⟨rfl, rfl⟩))
  go_ret
  exact ⟨rfl, below_gb HJ.out.2.1 HJ2.out.2 (by simp; omega) hp⟩
theorem good_nl (s : ByteArray) (c n : Nat) (w : World) (h : s.size ≤ 1048576) (hn : n ≤ 1073741824) (ht : Lib.Utf8Tabs 0 1 w) (hc : c < s.size) (x W : Nat) (hd : Utf8.decode s c = (10, W)) : Calls Tryd.prog 3 #[.string s, .int .i64 c, .int .i64 n] w fun e w' => e = .returned (.bool true) ∧ Below w.heap.size w w' := by
  have w0 : 1 < w.heap.size := World.block_lt_of_cell? w ⟨1, 0, none⟩ (ht.2 0 (by decide)).1
  have hW := width_le s c hc
  rw [hd] at hW
  obtain ⟨hW0, hW1⟩ := hW
  simp only at hW0 hW1
  have HT := Lib.hid ht
  clear ht
  have HD := Lib.hid (show decAt s c = ((10 : Int), W) by unfold decAt; rw [if_pos hc, hd] <;> rfl)
  have hne : ((c : Int) == (s.size : Int)) = false := by simp; omega
  have ZZ := zz_any s c
  rw [hd] at ZZ
  have HZ := Lib.hid ZZ
  clear ZZ hd
  go_enter Tryd.func3, Tryd.ntmps3
  go_wp2_with fail
  refine (js_bytes _ _ _ _ h).mono ?_
  rintro e w1 ⟨rfl, rfl⟩
  go_wp2_with fail
  refine (js_new _ _ _).mono ?_
  rintro e w1 ⟨p, rfl, hj, hp, hb⟩
  have hpl := hj.lt
  have f55 := hj.free 55
  have J1 := hj.set 55 (.int .i64 n)
  rw [jset55] at J1
  obtain ⟨c1, c2, c3, c4, c5⟩ := hj.facts
  have hb1 := hb.setCell (p := ⟨p, 55, none⟩) hp (.int .i64 n)
  have HJ := Lib.hid (And.intro J1 (And.intro hb1 (tabs_below HT.out hb1 (by omega) (by omega))))
  clear J1 hj hb hb1
  go_wp2_with fail
  refine (zstep p s c 0 n 0 _ HJ.out.1 (Nat.le_of_lt hc) h (by omega) HJ.out.2.2 10 W 1 HD.out (.inl ⟨rfl, rfl⟩)).mono ?_
  rintro e w2 ⟨rfl, h2, g2⟩
  obtain ⟨d1, d2, d3, d4, d5⟩ := h2.facts
  have HJ2 := Lib.hid (And.intro h2 g2)
  clear h2 g2
  try simp only [Nat.add_zero] at d2 d4
  go_wp2_with (first | (go_at_call 13; refine (js_end _ _ _ _ _ _ _ HJ2.out.1).mono ?_; rintro e w3 ⟨rfl, rfl⟩) | (go_at_call 14; refine (js_cp _ _ _ _ _ _ _ HJ2.out.1).mono ?_; rintro e w3 ⟨rfl, rfl⟩) | (go_at_call 15; refine (js_cur _ _ _ _ _ _ _ HJ2.out.1).mono ?_; rintro e w3 ⟨rfl, rfl⟩) | (go_at_call 16; refine (HZ.out _ hc h).mono ?_; rintro e w3 ⟨rfl, rfl⟩))
  go_ret
  exact ⟨rfl, below_gb HJ.out.2.1 HJ2.out.2 (by simp; omega) hp⟩
theorem good_in (s : ByteArray) (c n : Nat) (w : World) (h : s.size ≤ 1048576) (hn : n ≤ 1073741824) (ht : Lib.Utf8Tabs 0 1 w) (hc : c < s.size) (x W : Nat) (hd : Utf8.decode s c = (x, W)) (hx0 : ((x : Int) == 10) = false) (hx1 : (x : Int) ≠ 10) : Calls Tryd.prog 3 #[.string s, .int .i64 c, .int .i64 n] w fun e w' => e = .returned (.bool true) ∧ Below w.heap.size w w' := by
  have w0 : 1 < w.heap.size := World.block_lt_of_cell? w ⟨1, 0, none⟩ (ht.2 0 (by decide)).1
  have hW := width_le s c hc
  rw [hd] at hW
  obtain ⟨hW0, hW1⟩ := hW
  simp only at hW0 hW1
  have HT := Lib.hid ht
  clear ht
  have HD := Lib.hid (show decAt s c = ((x : Int), W) by unfold decAt; rw [if_pos hc, hd] <;> rfl)
  have hne : ((c : Int) == (s.size : Int)) = false := by simp; omega
  have ZZ := zz_any s c
  rw [hd] at ZZ
  have HZ := Lib.hid ZZ
  clear ZZ hd
  go_enter Tryd.func3, Tryd.ntmps3
  go_wp2_with fail
  refine (js_bytes _ _ _ _ h).mono ?_
  rintro e w1 ⟨rfl, rfl⟩
  go_wp2_with fail
  refine (js_new _ _ _).mono ?_
  rintro e w1 ⟨p, rfl, hj, hp, hb⟩
  have hpl := hj.lt
  have f55 := hj.free 55
  have J1 := hj.set 55 (.int .i64 n)
  rw [jset55] at J1
  obtain ⟨c1, c2, c3, c4, c5⟩ := hj.facts
  have hb1 := hb.setCell (p := ⟨p, 55, none⟩) hp (.int .i64 n)
  have HJ := Lib.hid (And.intro J1 (And.intro hb1 (tabs_below HT.out hb1 (by omega) (by omega))))
  clear J1 hj hb hb1
  go_wp2_with fail
  refine (zstep p s c 0 n 0 _ HJ.out.1 (Nat.le_of_lt hc) h (by omega) HJ.out.2.2 x W 0 HD.out (.inr ⟨hx1, rfl⟩)).mono ?_
  rintro e w2 ⟨rfl, h2, g2⟩
  obtain ⟨d1, d2, d3, d4, d5⟩ := h2.facts
  have HJ2 := Lib.hid (And.intro h2 g2)
  clear h2 g2
  try simp only [Nat.add_zero] at d2 d4
  go_wp2_with (first | (go_at_call 13; refine (js_end _ _ _ _ _ _ _ HJ2.out.1).mono ?_; rintro e w3 ⟨rfl, rfl⟩) | (go_at_call 14; refine (js_cp _ _ _ _ _ _ _ HJ2.out.1).mono ?_; rintro e w3 ⟨rfl, rfl⟩) | (go_at_call 15; refine (js_cur _ _ _ _ _ _ _ HJ2.out.1).mono ?_; rintro e w3 ⟨rfl, rfl⟩) | (go_at_call 16; refine (HZ.out _ hc h).mono ?_; rintro e w3 ⟨rfl, rfl⟩))
  go_ret
  exact ⟨rfl, below_gb HJ.out.2.1 HJ2.out.2 (by simp; omega) hp⟩
theorem good (s : ByteArray) (c n : Nat) (w : World) (h : s.size ≤ 1048576) (hc : c ≤ s.size) (hn : n ≤ 1073741824) (ht : Lib.Utf8Tabs 0 1 w) : Calls Tryd.prog 3 #[.string s, .int .i64 c, .int .i64 n] w fun e w' => e = .returned (.bool true) ∧ Below w.heap.size w w' := by
  by_cases hl : c < s.size
  · by_cases h10 : (Utf8.decode s c).1 = 10
    · exact good_nl s c n w h hn ht hl 10 _ (Prod.ext h10 rfl)
    · exact good_in s c n w h hn ht hl (Utf8.decode s c).1 (Utf8.decode s c).2 rfl (beq_eq_false_iff_ne.2 (fun e => h10 (by omega))) (fun e => h10 (by omega))
  · obtain rfl : c = s.size := by omega
    exact good_end s n w h hn ht

theorem walk (a0 : ByteArray) (a1 : Int) (a2 : Int) (w0 : a0.size ≤ maxLen) (w1 : (Lit.int .i64 a1).wf = true) (w2 : (Lit.int .i64 a2).wf = true) (w : World) (hL : laidMetH Tryd.prog Rows.fnStepMatchesUTF8ModelRow.laid w) :
    Calls Tryd.prog 3 #[.string a0, .int .i64 a1, .int .i64 a2] w fun e w' => e = .returned (.bool true) ∧ Below w.heap.size w w' := by
  have ht : Lib.Utf8Tabs 0 1 w := utf8Tabs_of_readsT u8types u8extra (Pinned.utf8First_eq ▸ Lib.laidMet.reads hL (.tail _ (.head _))) (Lib.laidMet.reads hL (.head _))
  by_cases hl : a0.size ≤ 1048576
  · by_cases hc : 0 ≤ a1 ∧ a1 ≤ (a0.size : Int)
    · by_cases hn : 0 ≤ a2 ∧ a2 ≤ 1073741824
      · obtain ⟨c, rfl⟩ := Int.eq_ofNat_of_zero_le hc.1
        obtain ⟨n, rfl⟩ := Int.eq_ofNat_of_zero_le hn.1
        exact good a0 c n w hl (by omega) (by omega) ht
      · exact bad3 a0 a1 a2 w hl hc.1 hc.2 (by omega)
    · exact bad2 a0 a1 a2 w hl (by omega)
  · exact bad1 a0 a1 a2 w (by omega) w0

open Go.Lib
set_option maxRecDepth 100000 in
theorem contract (H : Type) (enc : TypeId × Value → H) (W : World) (base : Nat) (args : Array Value) (ds gs : List (DataW H)) (before : List MemPlace)
    (hval : ∀ (j : Nat) t v, Tryd.f3.params[j]? = some t → args[j]? = some v → Value.okWide Tryd.prog W .any base t v)
    (hW : DataW.Whole enc Tryd.prog Tryd.f3.params.toList Rows.fnStepMatchesUTF8ModelSpec.vars false W args.toList ds gs before) (hL : laidMetH Tryd.prog Rows.fnStepMatchesUTF8ModelRow.laid W) :
    Calls Tryd.prog 3 args W fun e W' => ∃ v, e = .returned v ∧ Rows.fnStepMatchesUTF8ModelSpec.post enc Tryd.prog Tryd.f3 false true false false W args v W' := by
  have hW' := hW
  obtain ⟨p, q, hA0, hV, rfl, hfz, hnd⟩ := hW
  have hA : DataW.TrodAll enc Tryd.prog W 0 (fun _ => true) true Tryd.f3.params.toList args.toList ds p := hA0
  rw [Tryd.params3] at hA hval
  obtain ⟨v0, vs0, d0, ds0, p0, q0, hargs, rfl, rfl, h0, r0⟩ := trodAll_cons hA
  obtain ⟨v1, vs1, d1, ds1, p1, q1, rfl, rfl, rfl, h1, r1⟩ := trodAll_cons r0
  obtain ⟨v2, vs2, d2, ds2, p2, q2, rfl, rfl, rfl, h2, r2⟩ := trodAll_cons r1
  obtain ⟨rfl, rfl, rfl⟩ := trodAll_nil r2
  obtain rfl : args = #[v0, v1, v2] := by cases args; simp_all
  obtain ⟨rfl, rfl⟩ := trodVars_none hV
  obtain ⟨a0, rfl, rfl, rfl, w0⟩ := open_string Tryd.underlying9 (hval 0 9 v0 rfl rfl) h0
  obtain ⟨a1, rfl, rfl, rfl, w1⟩ := open_int Tryd.underlying3 (hval 1 3 v1 rfl rfl) h1
  obtain ⟨a2, rfl, rfl, rfl, w2⟩ := open_int Tryd.underlying3 (hval 2 3 v2 rfl rfl) h2
  clear hA0
  simp only [List.append_nil] at hW'
  refine (walk a0 a1 a2 w0 w1 w2 W hL).mono fun e W' ⟨he, bel⟩ => ?_
  subst he
  exact ⟨_, rfl, _, _, _, [], _, [], hW', trodAll_mk1 (shut_bool Tryd.underlying4 _), (trodAll_cons_mk (shut_string Tryd.underlying9 w0) (trodAll_cons_mk (shut_int Tryd.underlying3 w1) (trodAll_cons_mk (shut_int Tryd.underlying3 w2) trodAll_mk0))), rfl, bel.frame _, fun h => by cases h⟩


/-- a world for the witness: the settled one, the listed variables holding what their initialisers lay -/
noncomputable def laidWorld (os : Os) : World :=
  let w0 := World.holding Tryd.prog os ⟨#[], #[], []⟩
  let put (h : Array Obj) (g : Nat) (cs : Array Value) : Array Obj := h.modify g fun
    | .cells _ t frozen => .cells cs t frozen
    | o => o
  let h1 := put w0.heap 1 ((List.range 16).flatMap fun i => [Value.int .u8 (Lib.accLo i), Value.int .u8 (Lib.accHi i)]).toArray
  let h2 := put h1 0 (Lib.firstTab.map fun z => Value.int .u8 z).toArray
  { w0 with heap := h2 }


set_option maxRecDepth 1000000 in
theorem piece0 (os : Os) (args : Array Value) : LaidIn Tryd.prog ((laidWorld os).forCall (fun _ _ => 0) ⟨#[], args, []⟩).memory [("unicode/utf8.acceptRanges", Rows.laid_unicode_utf8_acceptRanges), ("unicode/utf8.first", Rows.laid_unicode_utf8_first)] [1, 0] :=
  LaidIn.of_run [1, 0] 8 (by kernel_rfl) (by kernel_rfl) (by kernel_rfl) (by kernel_rfl)
set_option maxRecDepth 1000000 in
theorem laid_met (os : Os) (args : Array Value) : laidMet Tryd.prog Rows.fnStepMatchesUTF8ModelRow.laid ((laidWorld os).forCall (fun _ _ => 0) ⟨#[], args, []⟩).memory :=
  (piece0 os args).met
theorem witness_row (os : Os) {H : Type} (enc : TypeId × Value → H) :
    (OpenSpec.ofChange Rows.fnStepMatchesUTF8ModelSpec).preRow enc Tryd.prog Tryd.f3 Rows.fnStepMatchesUTF8ModelRow.domain false Rows.fnStepMatchesUTF8ModelRow.laid ((laidWorld os).forCall (fun _ _ => 0) ⟨#[], #[.string ByteArray.empty, .int .i64 0, .int .i64 0], []⟩).memory #[.string ByteArray.empty, .int .i64 0, .int .i64 0] := by
  have hw : (DataW.whole enc Tryd.prog ((laidWorld os).forCall (fun _ _ => 0) ⟨#[], #[.string ByteArray.empty, .int .i64 0, .int .i64 0], []⟩).memory Tryd.f3.params.toList Rows.fnStepMatchesUTF8ModelSpec.vars false (#[.string ByteArray.empty, .int .i64 0, .int .i64 0] : Array Value).toList 8).map (fun x => (x.1, x.2.1)) =
      some ([.lit (.string []), .lit (.int .i64 0), .lit (.int .i64 0)], []) := by kernel_rfl
  obtain ⟨⟨x1, x2, x3⟩, hx, hx1⟩ := Option.map_eq_some_iff.1 hw
  simp only [Prod.mk.injEq] at hx1
  obtain ⟨rfl, rfl⟩ := hx1
  exact OpenSpec.preRow_of_cond 8 hx (by kernel_rfl) (fun k hk => by cases hk) (by kernel_rfl) (laid_met os _)

set_option maxRecDepth 100000 in
theorem lifted (os : Os) (started : os.Started) (H : Type) (enc : TypeId × Value → H) (F : Stop.Interp) :
    ReturnsInHanded {} Tryd.checked os 3 .any ((OpenSpec.ofChange Rows.fnStepMatchesUTF8ModelSpec).preRow enc Tryd.prog Tryd.f3 Rows.fnStepMatchesUTF8ModelRow.domain false Rows.fnStepMatchesUTF8ModelRow.laid) (((OpenSpec.ofChange Rows.fnStepMatchesUTF8ModelSpec).at F).post enc Tryd.prog Tryd.f3 false true false false) := by
  refine returnsInHanded_of_row (C := Tryd.checked) (s := OpenSpec.ofChange Rows.fnStepMatchesUTF8ModelSpec) own started (by kernel_rfl) Tryd.func3
    (witness_row_atRef (enc := enc) (C := Tryd.checked) false (laidWorld os) #[.string ByteArray.empty, .int .i64 0, .int .i64 0] rfl (by kernel_rfl) (by kernel_rfl) (by kernel_rfl) (witness_row os enc)) ?_
  intro W base args ds gs before hval hW _ _ _ hL _ _
  exact contract H enc W base args ds gs before hval hW hL

theorem said : Rows.FnStepMatchesUTF8ModelSaid :=
  OpenClaim.holds_of_cond 3 Tryd.f3 rfl rfl rfl rfl rfl rfl rfl ⟨rfl, rfl, rfl, rfl, rfl⟩ rfl rfl rfl rfl rfl (by kernel_rfl) Tryd.func3 (by kernel_rfl)
    (of_decide_eq_true (by kernel_rfl)) (by unfold Func.isWrapper; first | (rw [if_pos (by decide +kernel)]; kernel_rfl) | (rw [if_neg (by decide +kernel)]; exact ⟨rfl, rfl⟩))
    (fun os started H enc _ F => by rw [OpenClaim.pre_eq_preRow]; exact lifted os started H enc F)

/-- No parameter wants a stand-in; the program's own looks are off: what the card asks. -/
theorem plain7 (f : FuncId) (fn : Func) (hf : Tryd.pinned.checked.prog.funcNamed Rows.fnStepMatchesUTF8ModelRow.func = some f) (hfn : Tryd.pinned.checked.prog.funcs[f]? = some fn) :
    false = Tryd.pinned.checked.prog.looks [] ∧ ∀ (j : Nat) t, fn.params[j]? = some t → Tryd.pinned.checked.prog.wantsStandIn t = false := by
  obtain rfl : f = 3 := Option.some.inj ((show Tryd.prog.funcNamed Rows.fnStepMatchesUTF8ModelRow.func = some 3 by kernel_rfl).symm.trans hf) |>.symm
  obtain rfl : fn = Tryd.f3 := (Option.some.inj (Tryd.func3.symm.trans hfn)).symm
  refine ⟨by kernel_rfl, fun j t ht => ?_⟩
  rw [Tryd.params3] at ht
  have hm := Array.mem_of_getElem? ht
  have : t = 9 ∨ t = 3 := by simpa using hm
  rcases this with rfl | rfl
  · exact (show Tryd.prog.wantsStandIn 9 = false by kernel_rfl)
  · exact (show Tryd.prog.wantsStandIn 3 = false by kernel_rfl)

/-- the statement: the tied card -/
theorem proved : Rows.FnStepMatchesUTF8ModelCardSaid :=
  Claim7.holds_tied_plain_at .later [] _ _ _ _ said (fun _ h => by cases h) (by kernel_rfl) (fun _ h => by cases h) fnStepMatchesUTF8Model_row_tie rfl ⟨rfl, rfl⟩ (by kernel_rfl) rfl plain7 (by kernel_rfl)
#print axioms proved
end Go.Proofs.YtlbpplkanogkgaaDoor.fnStepMatchesUTF8Model
