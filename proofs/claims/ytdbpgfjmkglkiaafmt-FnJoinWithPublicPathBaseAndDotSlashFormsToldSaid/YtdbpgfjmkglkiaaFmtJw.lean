/-
  joinWithPublicPath at this seat, for every answerer of fmt. No statement of the seat is proved here.
-/
import Derived.Test.YtdbpgfjmkglkiaaFmtProg
import Derived.Test.YtdbpgfjmkglkiaaFmtJn
import Derived.Stop.CallBack
import Derived.Stop.IfaceNil
import Derived.Stop.JoinedTold
import Derived.Stop.FmtTextKit
import Derived.Stop.Texts
import Derived.WalkSpells
import Derived.KernelRfl
import Derived.Deep.LoopGhost
import Derived.Deep.DeepCutAuto
import Derived.Deep.CutBlock
import GoSem.ClaimData
namespace Go.Proofs.YtdbpgfjmkglkiaaFmt
open Go.RowKit Go.Extern.Stop Go.Stop Go.Extern
set_option linter.unusedVariables false

theorem call9 (args : Array Value) (w : World) : (callFunc 9 args).run Tryf.prog w = ((FmtStop.sprintf #[9, 41] #[9] args).run Tryf.prog w).andThen fun v w' => .ok (.value v) w' :=
  run_callFunc_extern Tryf.func9 (by kernel_rfl) (by kernel_rfl) (by kernel_rfl) (by kernel_rfl) args w
theorem guard1 (name : String) (w : World) : (FmtStop.guard name).run Tryf.prog w = .ok () w := by kernel_rfl
theorem fmt1 : FmtStop.printed? ⟨#[37, 115, 37, 115, 37, 115]⟩ 3 = some [(0, 115, false), (1, 115, false), (2, 115, false)] := by kernel_rfl
theorem fmt1r (w : World) : (FmtDoors.printed ⟨#[37, 115, 37, 115, 37, 115]⟩ 3).run Tryf.prog w = .ok [(0, 115, false), (1, 115, false), (2, 115, false)] w := by kernel_rfl
def shape9 : List UInt8 := [12, 6, 0, 0, 0, 0, 0, 0, 0, 115, 116, 114, 105, 110, 103]
theorem op9 (name : String) (x : ByteArray) (w : World) : (FmtStop.operand name false 115 false (.iface 9 (.string x))).run Tryf.prog w = .ok (shape9, FmtStop.pack x.data.toList) w := by kernel_rfl
theorem strict9 (name : String) (x : ByteArray) (w : World) : (FmtStop.strict name (.iface 9 (.string x))).run Tryf.prog w = .ok (shape9, FmtStop.pack x.data.toList) w := by kernel_rfl

/-- what fmt is asked -/
def rd (a b c : List UInt8) : List (List UInt8) := [[37, 115, 37, 115, 37, 115], shape9, FmtStop.pack a, shape9, FmtStop.pack b, shape9, FmtStop.pack c]

def isPre (s p : ByteArray) : Bool := p.data.toList.isPrefixOf s.data.toList
def isSuf (s : ByteArray) : Bool := s.data.toList.getLast? == some 47

theorem toList_eq (s : ByteArray) : s.toList = s.data.toList := Lib.toList_data s
theorem extract_list (s : ByteArray) (a b : Nat) : (s.extract a b).data.toList = (s.data.toList.take b).drop a := by
  simp [ByteArray.data_extract, List.extract, List.drop_take]

theorem isPre_short {s p : ByteArray} (h : s.size < p.size) : isPre s p = false := by
  unfold isPre
  rw [Bool.eq_false_iff]
  intro c
  have := (List.isPrefixOf_iff_prefix.1 c).length_le
  simp at this; omega
theorem isPre_take (s p : ByteArray) : isPre s p = ((s.extract 0 p.size).toList == p.toList) := by
  unfold isPre
  rw [Bool.eq_iff_iff, List.isPrefixOf_iff_prefix, beq_iff_eq, toList_eq, toList_eq, extract_list, List.prefix_iff_eq_take]
  simp [eq_comm]
theorem isSuf_last {s : ByteArray} (h : 1 ≤ s.size) : isSuf s = ((s.extract (s.size - 1) s.size).toList == [47]) := by
  unfold isSuf
  rw [Bool.eq_iff_iff, beq_iff_eq, beq_iff_eq, toList_eq, extract_list]
  have hl : s.data.toList.length = s.size := by simp
  rcases List.eq_nil_or_concat s.data.toList with e | ⟨xs, x, e⟩
  · rw [e] at hl; simp at hl; omega
  · rw [e] at hl ⊢
    simp at hl
    rw [List.take_of_length_le (by simp; omega)]
    simp [← hl]
theorem isSuf_nil {s : ByteArray} (h : ¬ 1 ≤ s.size) : isSuf s = false := by
  unfold isSuf
  have hl : s.data.toList.length = s.size := by simp
  have : s.data.toList = [] := List.eq_nil_of_length_eq_zero (by omega)
  rw [this]; rfl

set_option maxHeartbeats 1000000 in
theorem hp10_any (s p : ByteArray) (w : World) (hs : s.size ≤ 4194304) (hp : p.size ≤ 2) : Calls Tryf.prog 10 #[.string s, .string p] w fun e w' => e = .returned (.bool (isPre s p)) ∧ w = w' := by
  rcases Nat.lt_or_ge s.size p.size with h | h
  · have HF := Lib.hid (isPre_short h)
    go_enter Tryf.func10, Tryf.ntmps10
    go_wp2_with fail
    go_ret
    exact ⟨by rw [HF.out]; rfl, rfl⟩
  · have HE := Lib.hid (isPre_take s p)
    go_enter Tryf.func10, Tryf.ntmps10
    go_wp2_with fail
    go_ret
    exact ⟨by rw [HE.out]; rfl, rfl⟩
set_option maxHeartbeats 1000000 in
theorem hp_any (s p : ByteArray) (w : World) (hs : s.size ≤ 4194304) (hp : p.size ≤ 2) : Calls Tryf.prog 7 #[.string s, .string p] w fun e w' => e = .returned (.bool (isPre s p)) ∧ w = w' := by
  have HP := Lib.hid (hp10_any s p w hs hp)
  go_enter Tryf.func7, Tryf.ntmps7
  go_wp2_with (go_at_call 10; refine HP.out.mono ?_; rintro e w' ⟨rfl, rfl⟩)
  go_ret
  exact ⟨rfl, rfl⟩
set_option maxHeartbeats 1000000 in
theorem hs11_any (s : ByteArray) (w : World) (hs : s.size ≤ 4194304) : Calls Tryf.prog 11 #[.string s, .string ⟨#[47]⟩] w fun e w' => e = .returned (.bool (isSuf s)) ∧ w = w' := by
  by_cases h : 1 ≤ s.size
  · have HE := Lib.hid (isSuf_last h)
    obtain ⟨m, hm⟩ : ∃ m, s.size - 1 = m := ⟨_, rfl⟩
    have hI : (s.size : Int) - 1 = (m : Int) := by omega
    have h1 : ((⟨#[47]⟩ : ByteArray).size : Int) = 1 := rfl
    go_enter Tryf.func11, Tryf.ntmps11
    go_wp2_with fail
    go_ret
    exact ⟨by rw [HE.out, hm]; rfl, rfl⟩
  · have HF := Lib.hid (isSuf_nil h)
    go_enter Tryf.func11, Tryf.ntmps11
    go_wp2_with fail
    go_ret
    exact ⟨by rw [HF.out]; rfl, rfl⟩
set_option maxHeartbeats 1000000 in
theorem hs_any (s : ByteArray) (w : World) (hs : s.size ≤ 4194304) : Calls Tryf.prog 8 #[.string s, .string ⟨#[47]⟩] w fun e w' => e = .returned (.bool (isSuf s)) ∧ w = w' := by
  have HP := Lib.hid (hs11_any s w hs)
  go_enter Tryf.func8, Tryf.ntmps8
  go_wp2_with (go_at_call 11; refine HP.out.mono ?_; rintro e w' ⟨rfl, rfl⟩)
  go_ret
  exact ⟨rfl, rfl⟩

def dot : ByteArray := ⟨#[46, 47]⟩
def sl : ByteArray := ⟨#[47]⟩
theorem pre_dot {r : ByteArray} (h : isPre r ⟨#[46, 47]⟩ = true) : r.data.toList = 46 :: 47 :: (r.extract 2 r.size).data.toList ∧ (r.extract 2 r.size).size + 2 = r.size ∧ 2 ≤ r.size := by
  obtain ⟨m, hm⟩ := List.isPrefixOf_iff_prefix.1 h
  have hl : r.data.toList.length = r.size := by simp
  have hm' : r.data.toList = 46 :: 47 :: m := hm.symm
  have e2 : (r.extract 2 r.size).data.toList = m := by rw [extract_list, List.take_of_length_le (by rw [hl]; exact Nat.le_refl _), hm']; rfl
  have hs : (r.extract 2 r.size).data.toList.length = (r.extract 2 r.size).size := by simp
  rw [e2] at hs
  rw [hm'] at hl
  simp at hl
  refine ⟨by rw [e2]; exact hm', by omega, by omega⟩
theorem pre_sl {r : ByteArray} (h : isPre r ⟨#[47]⟩ = true) : r.data.toList = 47 :: (r.extract 1 r.size).data.toList ∧ (r.extract 1 r.size).size + 1 = r.size ∧ 1 ≤ r.size := by
  obtain ⟨m, hm⟩ := List.isPrefixOf_iff_prefix.1 h
  have hl : r.data.toList.length = r.size := by simp
  have hm' : r.data.toList = 47 :: m := hm.symm
  have e2 : (r.extract 1 r.size).data.toList = m := by rw [extract_list, List.take_of_length_le (by rw [hl]; exact Nat.le_refl _), hm']; rfl
  have hs : (r.extract 1 r.size).data.toList.length = (r.extract 1 r.size).size := by simp
  rw [e2] at hs
  rw [hm'] at hl
  simp at hl
  refine ⟨by rw [e2]; exact hm', by omega, by omega⟩
theorem not_dot {r : ByteArray} (h : isPre r ⟨#[46, 47]⟩ = false) : ¬ ∃ m, r.data.toList = 46 :: 47 :: m := by
  rintro ⟨m, hm⟩
  have : isPre r ⟨#[46, 47]⟩ = true := List.isPrefixOf_iff_prefix.2 ⟨m, hm.symm⟩
  rw [h] at this; cases this
theorem not_sl {r : ByteArray} (h : isPre r ⟨#[47]⟩ = false) : r.data.toList.head? ≠ some 47 := by
  intro c
  have : isPre r ⟨#[47]⟩ = true := by
    refine List.isPrefixOf_iff_prefix.2 ?_
    cases e : r.data.toList with
    | nil => rw [e] at c; cases c
    | cons x m => rw [e] at c; simp at c; subst c; exact ⟨m, rfl⟩
  rw [h] at this; cases this

/-- behind the stripping -/
def Rl (w : World) (c : ByteArray) (v : Value) (wc : World) : Prop := ∃ r : ByteArray, v = .string r ∧ r.data.toList = relOf c.data.toList ∧ wc = w

set_option maxHeartbeats 1000000 in
theorem join6_any (F : Interp) (a c : ByteArray) (w : World) (hF : F.answers w.tape) (ha : a.size ≤ 2097152) (hc : c.size ≤ 2097152) :
    Calls Tryf.prog 6 #[.string a, .string c] w fun e w' => ∃ r : ByteArray, r.data.toList = relOf c.data.toList ∧ e = .returned (.string (FmtStop.textOf (F "fmt.Sprintf" (rd (pubOf a.data.toList) (slashOf (pubOf a.data.toList)) r.data.toList) 0))) ∧
      Below w.heap.size w w' := by
  have hF' := answers_open hF
  have q1 := call9
  have q2 := guard1
  have q3 := fmt1
  have q4 := fmt1r
  have q5 := op9
  have q6 := strict9
  have HP := fun (s p : ByteArray) (hs : s.size ≤ 4194304) (hp : p.size ≤ 2) => Lib.hid (hp_any s p w hs hp)
  have HS := fun (s : ByteArray) (hs : s.size ≤ 4194304) => Lib.hid (hs_any s w hs)
  obtain ⟨b0, hb0⟩ : ∃ b0, isPre c ⟨#[46, 47]⟩ = b0 := ⟨_, rfl⟩
  have H0 := Lib.hid hb0
  go_enter Tryf.func6, Tryf.ntmps6
  go_upto_if 7 with (go_at_call 7; refine (HP c ⟨#[46, 47]⟩ (by omega) (by decide)).out.mono ?_; rintro e w' ⟨rfl, rfl⟩; rw [hb0])
  go_cut [1] (fun v wc => Rl w c v wc)
  case first =>
    cases b0
    · go_wp2_with fail
      go_meet
      exact ⟨c, rfl, (relOf_else (not_dot H0.out)).symm, rfl⟩
    · obtain ⟨e1, e2, e3⟩ := pre_dot H0.out
      have HX := Lib.hid (And.intro e1 e2)
      clear e1
      go_wp2_with fail
      go_loopg [1] (c.size + 1) (fun k v wr => ∃ r : ByteArray, v = .string r ∧ Hid (strip r.data.toList = relOf c.data.toList) ∧ r.size ≤ c.size ∧ r.size + 1 ≤ k ∧ wr = w)
      case atStart => exact ⟨_, rfl, Lib.hid (by rw [HX.out.1, relOf_dot]), by omega, by omega, rfl⟩
      case round =>
        obtain ⟨r, rfl, HR, hr1, hr2, rfl⟩ := hrel
        obtain ⟨b1, hb1⟩ : ∃ b1, isPre r ⟨#[47]⟩ = b1 := ⟨_, rfl⟩
        have H1 := Lib.hid hb1
        cases b1
        · obtain ⟨b2, hb2⟩ : ∃ b2, isPre r ⟨#[46, 47]⟩ = b2 := ⟨_, rfl⟩
          have H2 := Lib.hid hb2
          cases b2
          · go_wp2_with (first
              | (go_at_call 7; refine (HP r ⟨#[47]⟩ (by omega) (by decide)).out.mono ?_; rintro e w' ⟨rfl, rfl⟩; rw [hb1])
              | (go_at_call 7; refine (HP r ⟨#[46, 47]⟩ (by omega) (by decide)).out.mono ?_; rintro e w' ⟨rfl, rfl⟩; rw [hb2]))
            go_meet
            exact ⟨r, rfl, by rw [← HR.out, strip_else (not_sl H1.out) (not_dot H2.out)], rfl⟩
          · obtain ⟨d1, d2, d3⟩ := pre_dot H2.out
            have HD := Lib.hid (And.intro d1 d2)
            clear d1
            go_wp2_with (first
              | (go_at_call 7; refine (HP r ⟨#[47]⟩ (by omega) (by decide)).out.mono ?_; rintro e w' ⟨rfl, rfl⟩; rw [hb1])
              | (go_at_call 7; refine (HP r ⟨#[46, 47]⟩ (by omega) (by decide)).out.mono ?_; rintro e w' ⟨rfl, rfl⟩; rw [hb2]))
            go_roundg ((r.extract 2 r.size).size + 1)
            case measure => omega
            case rel => exact ⟨_, rfl, Lib.hid (by rw [← HR.out, HD.out.1, strip_dot]), by omega, Nat.le_refl _, rfl⟩
        · obtain ⟨d1, d2, d3⟩ := pre_sl H1.out
          have HD := Lib.hid (And.intro d1 d2)
          clear d1
          go_wp2_with (go_at_call 7; refine (HP r ⟨#[47]⟩ (by omega) (by decide)).out.mono ?_; rintro e w' ⟨rfl, rfl⟩; rw [hb1])
          go_roundg ((r.extract 1 r.size).size + 1)
          case measure => omega
          case rel => exact ⟨_, rfl, Lib.hid (by rw [← HR.out, HD.out.1, strip_slash]), by omega, Nat.le_refl _, rfl⟩
  case rest =>
    obtain ⟨r, rfl, hr, rfl⟩ := hcut
    have HRL := Lib.hid hr
    clear hr H0 hb0
    obtain ⟨b1, hb1⟩ : ∃ b1, isSuf a = b1 := ⟨_, rfl⟩
    have H1 := Lib.hid hb1
    rcases (show a.size = 0 ∨ 0 < a.size by omega) with h0 | h0
    · have ea : a.data.toList = [] := List.eq_nil_of_length_eq_zero (by simpa using h0)
      have HA := Lib.hid ea
      have et : (a.toList == []) = true := by rw [toList_eq, ea]; rfl
      have hb2 : isSuf ⟨#[46]⟩ = false := rfl
      clear ea
      go_wp2_with (go_at_call 8; refine (HS ⟨#[46]⟩ (by decide)).out.mono ?_; rintro e w' ⟨rfl, rfl⟩; rw [hb2])
      go_ret
      exact ⟨r, HRL.out, by rw [HA.out]; rfl, ((Below.refl _ _).alloc (Nat.le_refl _) _).drew⟩
    · have hne : a.data.toList ≠ [] := by intro c; have : a.data.toList.length = a.size := by simp
                                          rw [c] at this; simp at this; omega
      have HA := Lib.hid (show pubOf a.data.toList = a.data.toList by unfold pubOf; rw [if_neg hne])
      have et : (a.toList == []) = false := by rw [toList_eq]; exact beq_eq_false_iff_ne.2 hne
      cases b1
      · have HSL := Lib.hid (show slashOf a.data.toList = [47] by unfold slashOf; rw [if_neg (fun c => by have h := H1.out; unfold isSuf at h; rw [c] at h; cases h)])
        clear hne
        go_wp2_with (go_at_call 8; refine (HS a (by omega)).out.mono ?_; rintro e w' ⟨rfl, rfl⟩; rw [hb1])
        go_ret
        exact ⟨r, HRL.out, by rw [HA.out, HSL.out]; rfl, ((Below.refl _ _).alloc (Nat.le_refl _) _).drew⟩
      · have HSL := Lib.hid (show slashOf a.data.toList = [] by unfold slashOf; rw [if_pos (by have h := H1.out; unfold isSuf at h; simpa using h)])
        clear hne
        go_wp2_with (go_at_call 8; refine (HS a (by omega)).out.mono ?_; rintro e w' ⟨rfl, rfl⟩; rw [hb1])
        go_ret
        exact ⟨r, HRL.out, by rw [HA.out, HSL.out]; rfl, ((Below.refl _ _).alloc (Nat.le_refl _) _).drew⟩

theorem text_of (a b c : List UInt8) (ha : a.length < 2 ^ 64) (hb : b.length < 2 ^ 64) (hc : c.length < 2 ^ 64) : FmtText.text "fmt.Sprintf" (rd a b c) = some (a ++ (b ++ c)) := by
  have t : (FmtText.parse [37, 115, 37, 115, 37, 115]).map FmtText.glue = some [.verb {} 115, .verb {} 115, .verb {} 115] := by rfl
  have h1 := FmtText.operand_str_at (sh := shape9) rfl rfl a ha
  have h2 := FmtText.operand_str_at (sh := shape9) rfl rfl b hb
  have h3 := FmtText.operand_str_at (sh := shape9) rfl rfl c hc
  rw [rd, FmtText.text_sprintf_glued t (FmtText.operands_cons h1 (FmtText.operands_cons h2 (FmtText.operands_cons h3 FmtText.operands_nil)))]
  simp [FmtText.render, FmtText.printArg_s_str]

/-- a string whose bytes are p, the slash, what is left of r -/
def Jd (a c : ByteArray) (e : Ending) : Prop := ∃ s : ByteArray, e = .returned (.string s) ∧ s.data.toList = joined a.data.toList c.data.toList
set_option maxHeartbeats 1000000 in
theorem join_any (F : Interp) (a c : ByteArray) (w : World) (hF : F.told.answers w.tape) (ha : a.size ≤ 2097152) (hc : c.size ≤ 2097152) :
    Calls Tryf.prog 5 #[.string a, .string c] w fun e w' => Jd a c e ∧ Below w.heap.size w w' := by
  have HJ := Lib.hid (join6_any F.told a c w hF ha hc)
  go_enter Tryf.func5, Tryf.ntmps5
  go_wp2_with (go_at_call 6; refine HJ.out.mono ?_; rintro e w' ⟨r, hr, rfl, hb⟩; have HR := Lib.hid (And.intro hr hb); clear hr hb)
  go_ret
  refine ⟨⟨_, rfl, ?_⟩, HR.out.2⟩
  have hla : a.data.toList.length = a.size := by simp
  have hlc : c.data.toList.length = c.size := by simp
  have l1 : (pubOf a.data.toList).length ≤ 2097152 := by unfold pubOf; split; simp; omega
  have l2 : (slashOf (pubOf a.data.toList)).length ≤ 1 := by unfold slashOf; split <;> simp
  have l3 : r.data.toList.length ≤ 2097152 := by rw [HR.out.1]; exact Nat.le_trans (relOf_le _) (by omega)
  rw [Kit.textOf_list, told_string F (text_of _ _ _ (by omega) (by omega) (by omega)) (by simp only [List.length_append]; omega), HR.out.1]
  rfl

set_option maxHeartbeats 1000000 in
theorem zb_any (a c : ByteArray) (w : World) (ha : a.size ≤ maxLen) (hc : c.size ≤ maxLen) : Calls Tryf.prog 4 #[.string a, .string c] w fun e w' => ((e = .returned (.bool true) ∧ a.size + c.size ≤ 1048576) ∨ e = .returned (.bool false)) ∧ w = w' := by
  unfold maxLen at ha hc
  by_cases h1 : a.size ≤ 1048576
  · by_cases h2 : c.size ≤ 1048576
    · by_cases h3 : a.size + c.size ≤ 1048576
      · go_enter Tryf.func4, Tryf.ntmps4
        go_wp2_with fail
        go_ret
        exact ⟨.inl ⟨rfl, h3⟩, rfl⟩
      · go_enter Tryf.func4, Tryf.ntmps4
        go_wp2_with fail
        go_ret
        exact ⟨.inr rfl, rfl⟩
    · go_enter Tryf.func4, Tryf.ntmps4
      go_wp2_with fail
      go_ret
      exact ⟨.inr rfl, rfl⟩
  · go_enter Tryf.func4, Tryf.ntmps4
    go_wp2_with fail
    go_ret
    exact ⟨.inr rfl, rfl⟩

theorem jd_eq {s1 s2 : ByteArray} {x y : List UInt8} (h1 : s1.data.toList = x) (h2 : s2.data.toList = y) (h : x = y) : (s1.toList == s2.toList) = true := by
  rw [toList_eq, toList_eq, h1, h2, h]; simp

end Go.Proofs.YtdbpgfjmkglkiaaFmt
