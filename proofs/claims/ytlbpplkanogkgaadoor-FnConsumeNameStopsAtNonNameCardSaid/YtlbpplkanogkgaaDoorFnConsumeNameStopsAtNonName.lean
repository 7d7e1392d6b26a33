/-
  For every text the law FnConsumeNameStopsAtNonName returns true: consumeName ends within the text at a byte that neither continues a name nor opens a valid escape, and where no backslash lies in the consumed span it hands back that span, made of name bytes only (beyond its length bound the law returns true too). The card ties the decoder's tables to the program's text.
-/
import Derived.Test.YtlbpplkanogkgaaDoorCards
import Derived.Test.YtlbpplkanogkgaaDoorTie
import Derived.WalkKit
import Derived.ProofKit
import Derived.OpenShut
import Derived.ShutString
import Derived.ChangeOld
import Derived.Below
import Derived.Deep.DeepHandedRow
import Derived.Deep.DeepWitnessRowRef
import Derived.Lib.LaidIn
import Derived.Lib.LaidSlice
import Derived.Lib.LaidU8
import Derived.PinnedBridge
import Derived.OpenVars
import Derived.Lib.LaidU8T
import Derived.PinnedBridge
import Derived.Test.YtlbpplkanogkgaaDoorCssName
import Derived.Deep.DeepCutAuto
namespace Go.Proofs.YtlbpplkanogkgaaDoor.fnConsumeNameStopsAtNonName
open Go.ChangeShapes Go.WideShapes Go.ChangeAt Go.RowKit
open Go.ChangeMaps (open_string shut_string)
set_option linter.unusedVariables false

theorem own : ownKnob Tryd.prog.godebug = none := by kernel_rfl
theorem laidOut : laidOutB Tryd.prog = true := by kernel_rfl

def u8ren : Go.Shelf.Ren := ⟨fun n => n, fun | 119 => 165 | 138 => 167 | 139 => 168 | n => n, fun | 3 => 0 | 4 => 1 | n => n⟩
theorem u8types : U8Types Tryd.prog u8ren := ⟨Tryd.underlying5, Tryd.underlying165, Tryd.underlying167, Tryd.underlying168⟩
theorem u8extra : U8Extra Tryd.prog u8ren := ⟨by kernel_rfl, by kernel_rfl, by kernel_rfl, by kernel_rfl, by kernel_rfl, by kernel_rfl, by kernel_rfl⟩
theorem bytes_no (s : ByteArray) (w : World) (h : 1048576 < s.size) (hm : s.size ≤ maxLen) : Calls Tryd.prog 25 #[.string s] w fun r w' => r = .returned (.bool false) ∧ w = w' := by
  unfold maxLen at hm
  go_enter Tryd.func25, Tryd.ntmps25
  go_wp2
  go_ret
  exact ⟨rfl, rfl⟩
theorem bytes_yes (s : ByteArray) (w : World) (h : s.size ≤ 1048576) : Calls Tryd.prog 25 #[.string s] w fun r w' => r = .returned (.bool true) ∧ w = w' := by
  go_enter Tryd.func25, Tryd.ntmps25
  go_wp2
  go_ret
  exact ⟨rfl, rfl⟩
theorem bad1 (s : ByteArray) (w : World) (h : 1048576 < s.size) (hm : s.size ≤ maxLen) : Calls Tryd.prog 5 #[.string s] w fun e w' => e = .returned (.bool true) ∧ Below w.heap.size w w' := by
  go_enter Tryd.func5, Tryd.ntmps5
  go_wp2_with (go_at_call 25; refine (bytes_no _ _ h hm).mono ?_; rintro e w1 ⟨rfl, rfl⟩)
  go_ret
  exact ⟨rfl, Below.refl _ _⟩
set_option maxHeartbeats 2000000 in
theorem nb_any (c : Nat) (w : World) (hc : c < 256) : Calls Tryd.prog 29 #[.int .u8 c] w fun e w' => e = .returned (.bool (nameCont c)) ∧ w = w' := by
  rcases (show c = 0 ∨ (0 < c ∧ c < 45) ∨ c = 45 ∨ (45 < c ∧ c < 48) ∨ (48 ≤ c ∧ c ≤ 57) ∨ (57 < c ∧ c < 65) ∨ (65 ≤ c ∧ c ≤ 90) ∨ (90 < c ∧ c < 95) ∨ c = 95 ∨ c = 96 ∨ (97 ≤ c ∧ c ≤ 122) ∨ (122 < c ∧ c < 128) ∨ 128 ≤ c by omega) with rfl | ⟨h1, h2⟩ | rfl | ⟨h1, h2⟩ | ⟨h1, h2⟩ | ⟨h1, h2⟩ | ⟨h1, h2⟩ | ⟨h1, h2⟩ | rfl | rfl | ⟨h1, h2⟩ | ⟨h1, h2⟩ | h1
  case inl => go_enter Tryd.func29, Tryd.ntmps29; go_wp2; go_ret; exact ⟨rfl, rfl⟩
  case inr.inr.inl => go_enter Tryd.func29, Tryd.ntmps29; go_wp2; go_ret; exact ⟨rfl, rfl⟩
  case inr.inr.inr.inr.inr.inr.inr.inr.inl => go_enter Tryd.func29, Tryd.ntmps29; go_wp2; go_ret; exact ⟨rfl, rfl⟩
  case inr.inr.inr.inr.inr.inr.inr.inr.inr.inl => go_enter Tryd.func29, Tryd.ntmps29; go_wp2; go_ret; exact ⟨rfl, rfl⟩
  all_goals
    have t1 : ((c : Int) == 95) = false := beq_eq_false_iff_ne.2 (by omega)
    have t2 : ((c : Int) == 0) = false := beq_eq_false_iff_ne.2 (by omega)
    have t3 : ((c : Int) == 45) = false := beq_eq_false_iff_ne.2 (by omega)
    first
      | (have R : nameCont (c : Int) = true := by simp only [nameCont, nameStart, Bool.or_eq_true, decide_eq_true_eq]; omega
         have HR := Lib.hid R; clear R
         go_enter Tryd.func29, Tryd.ntmps29; go_wp2; go_ret; exact ⟨ret_bool (by rw [HR.out] <;> first | rfl | (simp only [decide_eq_true_eq]; omega) | (simp only [Bool.or_eq_true, decide_eq_true_eq]; omega)), rfl⟩)
      | (have R : nameCont (c : Int) = false := by simp only [nameCont, nameStart, Bool.or_eq_false_iff, decide_eq_false_iff_not]; omega
         have HR := Lib.hid R; clear R
         go_enter Tryd.func29, Tryd.ntmps29; go_wp2; go_ret; exact ⟨ret_bool (by rw [HR.out] <;> first | rfl | (simp only [decide_eq_false_iff_not]; omega) | (simp only [Bool.or_eq_false_iff, decide_eq_false_iff_not]; omega)), rfl⟩)
theorem nlb_any (c : Nat) (w : World) : Calls Tryd.prog 30 #[.int .u8 c] w fun e w' => e = .returned (.bool (isNL c)) ∧ w = w' := by
  by_cases h : c = 10 ∨ c = 13 ∨ c = 12
  · rcases h with rfl | rfl | rfl <;> (go_enter Tryd.func30, Tryd.ntmps30; go_wp2; go_ret; exact ⟨rfl, rfl⟩)
  · have R : isNL (c : Int) = false := by simp only [isNL, decide_eq_false_iff_not]; omega
    have t1 : ((c : Int) == 10) = false := beq_eq_false_iff_ne.2 (by omega)
    have t2 : ((c : Int) == 13) = false := beq_eq_false_iff_ne.2 (by omega)
    have t3 : ((c : Int) == 12) = false := beq_eq_false_iff_ne.2 (by omega)
    have HR := Lib.hid R
    clear h R
    go_enter Tryd.func30, Tryd.ntmps30
    go_wp2
    go_ret
    exact ⟨ret_bool HR.out.symm, rfl⟩
theorem zstep (p : Nat) (x : Lx) (w : World) (h : Css w p x) (hc : x.cur ≤ x.s.size) (hs : x.s.size ≤ 2097152) (hst : x.st ≤ x.cur) (hn : x.nl ≤ 1099511627776) (ht : Lib.Utf8Tabs 0 1 w) : Calls Tryd.prog 27 #[.pointer (some ⟨p, 0, none⟩)] w (Moved w p x.step) := by
  have K := Lib.hid (css_step p x w h hc hs hst hn ht)
  clear h hc hs hst hn ht
  go_enter Tryd.func27, Tryd.ntmps27
  go_wp2_with fail
  refine K.out.mono ?_
  rintro r w' ⟨rfl, h2, h3⟩
  have H := Lib.hid (And.intro h2 h3)
  clear h2 h3
  go_wp2
  go_end0
  exact ⟨rfl, H.out.1, H.out.2⟩
theorem fresh_step (s : ByteArray) (r : Bool) : (fresh s r).step = (fresh s r).at 0 0 := by
  have hc := cnt_dec s 0 (Nat.zero_le _)
  unfold Lx.step Lx.at fresh
  simp only [hc, cntNL]
  congr 1
theorem zname (p : Nat) (x : Lx) (b q : Nat) (w : World) (h : Lex w p x b q) : Calls Tryd.prog 28 #[.pointer (some ⟨p, 0, none⟩)] w (Named w p x b q) := by
  have K := Lib.hid (name_any p x b q w h)
  clear h
  go_enter Tryd.func28, Tryd.ntmps28
  go_wp2_with fail
  refine K.out.mono ?_
  rintro r w' ⟨v, q', rfl, h2, h3, h4⟩
  have H := Lib.hid (And.intro h2 (And.intro h3 h4))
  clear h2 h3 h4
  go_wp2
  go_ret
  exact ⟨v, q', rfl, H.out.1, H.out.2.1, H.out.2.2⟩
/-- is a backslash among the first k bytes? -/
def hasB (s : ByteArray) : Nat → Bool
  | 0 => false
  | k + 1 => hasB s k || decide (byteAt s k = 92)
theorem hasB_of (s : ByteArray) (k j : Nat) (h : j < k) (hb : byteAt s j = 92) : hasB s k = true := by
  induction k with
  | zero => omega
  | succ k ih =>
    rw [hasB]
    rcases (show j < k ∨ j = k by omega) with h | rfl
    · rw [ih h]; rfl
    · rw [decide_eq_true hb]; simp
theorem stop_byte {s : ByteArray} {q : Nat} (h : nameCont (decAt s q).1 = false) (hl : q < s.size) : nameCont (byteAt s q) = false := by
  rcases decAt_cases s q with ⟨_, e⟩ | ⟨_, hb, e⟩ | ⟨_, hb, e⟩
  · omega
  · rw [e] at h; exact h
  · rw [nc_high _ e] at h; cases h
theorem stop_esc {s : ByteArray} {q : Nat} (h : vEsc s q = false) (hl : q < s.size) (hb : byteAt s q = 92) : q + 1 < s.size ∧ isNL (byteAt s (q + 1)) = true := by
  have e := decAt_ascii s q hl (by omega)
  unfold vEsc at h
  rw [e, hb] at h
  have h' : isNL (decAt s (q + 1)).1 = true := by simpa using h
  have hx := h'
  simp only [isNL, decide_eq_true_eq] at hx
  obtain ⟨h1, h2, _⟩ := decAt_small s (q + 1) rfl (by omega) (by omega)
  exact ⟨h1, by rw [h2]; exact h'⟩
set_option maxRecDepth 100000 in
set_option maxHeartbeats 4000000 in
theorem good (s : ByteArray) (w : World) (h : s.size ≤ 1048576) (ht : Lib.Utf8Tabs 0 1 w) : Calls Tryd.prog 5 #[.string s] w fun e w' => e = .returned (.bool true) ∧ Below w.heap.size w w' := by
  have w0 : 1 < w.heap.size := World.block_lt_of_cell? w ⟨1, 0, none⟩ (ht.2 0 (by decide)).1
  have HT := Lib.hid ht
  clear ht
  go_enter Tryd.func5, Tryd.ntmps5
  go_wp2_with fail
  refine (bytes_yes _ _ h).mono ?_
  rintro e w1 ⟨rfl, rfl⟩
  go_wp2_with fail
  refine (css_new170 _ _).mono ?_
  rintro e w1 ⟨p, rfl, hj, hp, hb⟩
  have HJ := Lib.hid (And.intro hj (And.intro hb (tabs_below HT.out hb (by omega) (by omega))))
  clear hj hb
  go_wp2_with fail
  have hs := zstep p (fresh s false) w1 HJ.out.1 (Nat.zero_le _) (show s.size ≤ 2097152 by omega) (Nat.le_refl _) (Nat.zero_le _) HJ.out.2.2
  rw [fresh_step] at hs
  refine hs.mono ?_
  rintro e w2 ⟨rfl, h2, g2⟩
  have l2 : Lex w2 p (fresh s false) 0 0 := ⟨h2, Nat.zero_le _, Nat.le_refl _, (show s.size ≤ 2097152 by omega), Nat.zero_le _, tabs_gbn HJ.out.2.2 g2 (by simp; omega) (by simp; omega), by omega⟩
  have H2 := Lib.hid (And.intro l2 g2)
  clear l2 g2 h2 hs
  go_wp2_with fail
  refine (zname p (fresh s false) 0 0 w2 H2.out.1).mono ?_
  rintro e w3 ⟨v, q, rfl, hn, l3, g3⟩
  have hq := l3.hq
  obtain ⟨d10, d33, d35, d36, d37⟩ := l3.cells
  have e37 : ((q - (fresh s false).st : Nat) : Int) = (q : Int) := rfl
  rw [e37] at d37
  have hq : q ≤ s.size := hq
  have B3 : Hid (Below w.heap.size w w3) := Lib.hid (below_gb (below_gb HJ.out.2.1 H2.out.2 (by have := HJ.out.1.lt; omega) hp) g3 (by have := H2.out.1.lt; omega) hp)
  have hn : NameTo s 0 0 q v := hn
  have HN := Lib.hid hn
  clear hn l3 g3 d10 d33 d35 d36 e37
  have t0 : decide ((q : Int) < 0) = false := by simp
  go_upto_if 40 with fail
  go_cut [] (fun wc => wc = w3)
  case first =>
    rcases (show q = s.size ∨ q < s.size by omega) with rfl | hlt
    · go_wp2_with fail
      go_meet
      exact rfl
    · have eb := byteAt_get s q hlt
      have hbl := byteAt_lt s q
      have hnb := nb_any (byteAt s q) w3 hbl
      rw [stop_byte HN.out.2.2.1 hlt] at hnb
      by_cases hc : byteAt s q = 92
      · obtain ⟨h1, h2⟩ := stop_esc HN.out.2.2.2.1 hlt hc
        have eb1 := byteAt_get s (q + 1) h1
        have hnl := nlb_any (byteAt s (q + 1)) w3
        rw [h2] at hnl
        rw [hc] at eb hnb
        have HH := Lib.hid (And.intro hnb hnl)
        clear hnb hnl h2 hc hbl
        generalize byteAt s (q + 1) = b1 at eb1 HH
        go_wp2_with (first | (go_at_call 29; refine HH.out.1.mono ?_; rintro e w4 ⟨rfl, rfl⟩) | (go_at_call 30; refine HH.out.2.mono ?_; rintro e w4 ⟨rfl, rfl⟩))
        go_meet
        exact rfl
      · have tc : ((byteAt s q : Int) == 92) = false := beq_eq_false_iff_ne.2 (by omega)
        have HH := Lib.hid hnb
        clear hnb hc
        generalize byteAt s q = b0 at eb HH tc hbl
        go_wp2_with (first | (go_at_call 29; refine HH.out.mono ?_; rintro e w4 ⟨rfl, rfl⟩))
        go_meet
        exact rfl
  case rest =>
    have hcut1 := hcut.symm
    subst hcut1
    go_wp2_with fail
    go_loop [7, 8] (fun a i => ∃ k : Nat, i = .int .i64 k ∧ a = .bool (hasB s k) ∧ k ≤ q) (fun _ i => q - (intOf i).toNat)
    case atStart => exact ⟨0, rfl, rfl, Nat.zero_le _⟩
    case round =>
      obtain ⟨k, rfl, rfl, hk⟩ := hrel
      rcases (show k = q ∨ k < q by omega) with rfl | hlt
      · cases hB : hasB s k
        · have HA : Hid (v = s.extract 0 k ∧ ∀ j, j < k → nameCont (byteAt s j) = true) := by
            rcases HN.out.2.2.2.2.1 with ⟨a, b⟩ | ⟨j, _, h2, h3⟩
            · exact Lib.hid ⟨a, fun j hj => b j (Nat.zero_le _) hj⟩
            · rw [hasB_of s k j h2 h3] at hB; cases hB
          clear hB
          obtain ⟨hv, hall⟩ := HA.out
          subst hv
          clear HA
          have HALL := Lib.hid hall
          clear hall
          go_wp2_with fail
          go_loop [9] (fun i => ∃ m : Nat, i = .int .i64 m ∧ m ≤ k) (fun i => k - (intOf i).toNat)
          case atStart => exact ⟨0, rfl, Nat.zero_le _⟩
          case round =>
            obtain ⟨m, rfl, hm⟩ := hrel
            rcases (show m = k ∨ m < k by omega) with rfl | hm1
            · go_wp2_with fail
              go_ret
              exact ⟨by simp, B3.out⟩
            · have hms : m < s.size := by omega
              have eb := byteAt_get s m hms
              have hbl := byteAt_lt s m
              have hnb := nb_any (byteAt s m) w3 hbl
              rw [HALL.out m hm1] at hnb
              have HH := Lib.hid hnb
              clear hnb
              generalize byteAt s m = b0 at eb HH hbl
              go_wp2_with (first | (go_at_call 29; refine HH.out.mono ?_; rintro e w4 ⟨rfl, rfl⟩))
              go_round
              case rel => exact ⟨m + 1, by go_num, by omega⟩
              case measure => simp [intOf]; omega
        · clear hB
          go_wp2_with fail
          go_ret
          exact ⟨rfl, B3.out⟩
      · have hks : k < s.size := by omega
        have eb := byteAt_get s k hks
        have hbl := byteAt_lt s k
        have hst : hasB s (k + 1) = (hasB s k || decide (byteAt s k = 92)) := rfl
        have HS := Lib.hid hst
        clear hst
        by_cases hc : byteAt s k = 92
        · have HS2 : Hid (hasB s (k + 1) = true) := Lib.hid (by rw [HS.out, decide_eq_true hc, Bool.or_true])
          rw [hc] at eb
          go_wp2_with fail
          go_round
          case rel => exact ⟨k + 1, by go_num, by rw [HS2.out], by omega⟩
          case measure => simp [intOf]; omega
        · have HS2 : Hid (hasB s (k + 1) = hasB s k) := Lib.hid (by rw [HS.out, decide_eq_false hc, Bool.or_false])
          have tc : ((byteAt s k : Int) == 92) = false := beq_eq_false_iff_ne.2 (by omega)
          clear hc HS
          generalize byteAt s k = b0 at eb tc hbl
          go_wp2_with fail
          go_round
          case rel => exact ⟨k + 1, by go_num, by rw [HS2.out], by omega⟩
          case measure => simp [intOf]; omega

theorem walk (a0 : ByteArray) (w0 : a0.size ≤ maxLen) (w : World) (hL : laidMetH Tryd.prog Rows.fnConsumeNameStopsAtNonNameRow.laid w) :
    Calls Tryd.prog 5 #[.string a0] w fun e w' => e = .returned (.bool true) ∧ Below w.heap.size w w' := by
  have ht : Lib.Utf8Tabs 0 1 w := utf8Tabs_of_readsT u8types u8extra (Pinned.utf8First_eq ▸ Lib.laidMet.reads hL (.tail _ (.head _))) (Lib.laidMet.reads hL (.head _))
  by_cases hl : a0.size ≤ 1048576
  · exact good a0 w hl ht
  · exact bad1 a0 w (by omega) w0

open Go.Lib
set_option maxRecDepth 100000 in
theorem contract (H : Type) (enc : TypeId × Value → H) (W : World) (base : Nat) (args : Array Value) (ds gs : List (DataW H)) (before : List MemPlace)
    (hval : ∀ (j : Nat) t v, Tryd.f5.params[j]? = some t → args[j]? = some v → Value.okWide Tryd.prog W .any base t v)
    (hW : DataW.Whole enc Tryd.prog Tryd.f5.params.toList Rows.fnConsumeNameStopsAtNonNameSpec.vars false W args.toList ds gs before) (hL : laidMetH Tryd.prog Rows.fnConsumeNameStopsAtNonNameRow.laid W) :
    Calls Tryd.prog 5 args W fun e W' => ∃ v, e = .returned v ∧ Rows.fnConsumeNameStopsAtNonNameSpec.post enc Tryd.prog Tryd.f5 false true false false W args v W' := by
  have hW' := hW
  obtain ⟨p, q, hA0, hV, rfl, hfz, hnd⟩ := hW
  have hA : DataW.TrodAll enc Tryd.prog W 0 (fun _ => true) true Tryd.f5.params.toList args.toList ds p := hA0
  rw [Tryd.params5] at hA hval
  obtain ⟨v0, vs0, d0, ds0, p0, q0, hargs, rfl, rfl, h0, r0⟩ := trodAll_cons hA
  obtain ⟨rfl, rfl, rfl⟩ := trodAll_nil r0
  obtain rfl : args = #[v0] := by cases args; simp_all
  obtain ⟨rfl, rfl⟩ := trodVars_none hV
  obtain ⟨a0, rfl, rfl, rfl, w0⟩ := open_string Tryd.underlying9 (hval 0 9 v0 rfl rfl) h0
  clear hA0
  simp only [List.append_nil] at hW'
  refine (walk a0 w0 W hL).mono fun e W' ⟨he, bel⟩ => ?_
  subst he
  exact ⟨_, rfl, _, _, _, [], _, [], hW', trodAll_mk1 (shut_bool Tryd.underlying4 _), (trodAll_cons_mk (shut_string Tryd.underlying9 w0) trodAll_mk0), rfl, bel.frame _, fun h => by cases h⟩


/-- a world for the witness: the settled one, the listed variables holding what their initialisers lay -/
noncomputable def laidWorld (os : Os) : World :=
  let w0 := World.holding Tryd.prog os ⟨#[], #[], []⟩
  let put (h : Array Obj) (g : Nat) (cs : Array Value) : Array Obj := h.modify g fun
    | .cells _ t frozen => .cells cs t frozen
    | o => o
  let h1 := put w0.heap 1 ((List.range 16).flatMap fun i => [Value.int .u8 (Lib.accLo i), Value.int .u8 (Lib.accHi i)]).toArray
  let h2 := put h1 0 (Lib.firstTab.map fun z => Value.int .u8 z).toArray
  { w0 with heap := h2 }


set_option maxRecDepth 1000000 in
theorem piece0 (os : Os) (args : Array Value) : LaidIn Tryd.prog ((laidWorld os).forCall (fun _ _ => 0) ⟨#[], args, []⟩).memory [("unicode/utf8.acceptRanges", Rows.laid_unicode_utf8_acceptRanges), ("unicode/utf8.first", Rows.laid_unicode_utf8_first)] [1, 0] :=
  LaidIn.of_run [1, 0] 8 (by kernel_rfl) (by kernel_rfl) (by kernel_rfl) (by kernel_rfl)
set_option maxRecDepth 1000000 in
theorem laid_met (os : Os) (args : Array Value) : laidMet Tryd.prog Rows.fnConsumeNameStopsAtNonNameRow.laid ((laidWorld os).forCall (fun _ _ => 0) ⟨#[], args, []⟩).memory :=
  (piece0 os args).met
theorem witness_row (os : Os) {H : Type} (enc : TypeId × Value → H) :
    (OpenSpec.ofChange Rows.fnConsumeNameStopsAtNonNameSpec).preRow enc Tryd.prog Tryd.f5 Rows.fnConsumeNameStopsAtNonNameRow.domain false Rows.fnConsumeNameStopsAtNonNameRow.laid ((laidWorld os).forCall (fun _ _ => 0) ⟨#[], #[.string ByteArray.empty], []⟩).memory #[.string ByteArray.empty] := by
  have hw : (DataW.whole enc Tryd.prog ((laidWorld os).forCall (fun _ _ => 0) ⟨#[], #[.string ByteArray.empty], []⟩).memory Tryd.f5.params.toList Rows.fnConsumeNameStopsAtNonNameSpec.vars false (#[.string ByteArray.empty] : Array Value).toList 8).map (fun x => (x.1, x.2.1)) =
      some ([.lit (.string [])], []) := by kernel_rfl
  obtain ⟨⟨x1, x2, x3⟩, hx, hx1⟩ := Option.map_eq_some_iff.1 hw
  simp only [Prod.mk.injEq] at hx1
  obtain ⟨rfl, rfl⟩ := hx1
  exact OpenSpec.preRow_of_cond 8 hx (by kernel_rfl) (fun k hk => by cases hk) (by kernel_rfl) (laid_met os _)

set_option maxRecDepth 100000 in
theorem lifted (os : Os) (started : os.Started) (H : Type) (enc : TypeId × Value → H) (F : Stop.Interp) :
    ReturnsInHanded {} Tryd.checked os 5 .any ((OpenSpec.ofChange Rows.fnConsumeNameStopsAtNonNameSpec).preRow enc Tryd.prog Tryd.f5 Rows.fnConsumeNameStopsAtNonNameRow.domain false Rows.fnConsumeNameStopsAtNonNameRow.laid) (((OpenSpec.ofChange Rows.fnConsumeNameStopsAtNonNameSpec).at F).post enc Tryd.prog Tryd.f5 false true false false) := by
  refine returnsInHanded_of_row (C := Tryd.checked) (s := OpenSpec.ofChange Rows.fnConsumeNameStopsAtNonNameSpec) own started (by kernel_rfl) Tryd.func5
    (witness_row_atRef (enc := enc) (C := Tryd.checked) false (laidWorld os) #[.string ByteArray.empty] rfl (by kernel_rfl) (by kernel_rfl) (by kernel_rfl) (witness_row os enc)) ?_
  intro W base args ds gs before hval hW _ _ _ hL _ _
  exact contract H enc W base args ds gs before hval hW hL

theorem said : Rows.FnConsumeNameStopsAtNonNameSaid :=
  OpenClaim.holds_of_cond 5 Tryd.f5 rfl rfl rfl rfl rfl rfl rfl ⟨rfl, rfl, rfl, rfl, rfl⟩ rfl rfl rfl rfl rfl (by kernel_rfl) Tryd.func5 (by kernel_rfl)
    (of_decide_eq_true (by kernel_rfl)) (by unfold Func.isWrapper; first | (rw [if_pos (by decide +kernel)]; kernel_rfl) | (rw [if_neg (by decide +kernel)]; exact ⟨rfl, rfl⟩))
    (fun os started H enc _ F => by rw [OpenClaim.pre_eq_preRow]; exact lifted os started H enc F)

/-- No parameter wants a stand-in; the program's own looks are off: what the card asks. -/
theorem plain7 (f : FuncId) (fn : Func) (hf : Tryd.pinned.checked.prog.funcNamed Rows.fnConsumeNameStopsAtNonNameRow.func = some f) (hfn : Tryd.pinned.checked.prog.funcs[f]? = some fn) :
    false = Tryd.pinned.checked.prog.looks [] ∧ ∀ (j : Nat) t, fn.params[j]? = some t → Tryd.pinned.checked.prog.wantsStandIn t = false := by
  obtain rfl : f = 5 := Option.some.inj ((show Tryd.prog.funcNamed Rows.fnConsumeNameStopsAtNonNameRow.func = some 5 by kernel_rfl).symm.trans hf) |>.symm
  obtain rfl : fn = Tryd.f5 := (Option.some.inj (Tryd.func5.symm.trans hfn)).symm
  refine ⟨by kernel_rfl, fun j t ht => ?_⟩
  rw [Tryd.params5] at ht
  have hm := Array.mem_of_getElem? ht
  have : t = 9 := by simpa using hm
  subst this
  exact (show Tryd.prog.wantsStandIn 9 = false by kernel_rfl)

/-- the statement: the tied card -/
theorem proved : Rows.FnConsumeNameStopsAtNonNameCardSaid :=
  Claim7.holds_tied_plain_at .later [] _ _ _ _ said (fun _ h => by cases h) (by kernel_rfl) (fun _ h => by cases h) fnConsumeNameStopsAtNonName_row_tie rfl ⟨rfl, rfl⟩ (by kernel_rfl) rfl plain7 (by kernel_rfl)
#print axioms proved
end Go.Proofs.YtlbpplkanogkgaaDoor.fnConsumeNameStopsAtNonName
