/-
  For every text and either flag the law FnBestQuoteMatchesByteCountModel returns true: bestQuoteCharForString answers 0, single quote or double quote exactly as the closed form over byte counts says. No conditions.
-/
import Derived.Test.YtbicjmaogbaldaaRows
import Derived.WalkKit
import Derived.ProofKit
import Derived.OpenShut
import Derived.Below
import Derived.ChangeOld
import Derived.ShutString
import Derived.WalkSpells
import Derived.WalkLawsBesides
import Derived.LoopTactic
import Derived.Test.YtbicjmaogbaldaaBase
namespace Go.Proofs.Ytbicjmaogbaldaa.fnBestQuoteMatchesByteCountModel
open Go.ChangeShapes Go.WideShapes Go.ChangeAt Go.RowKit
open Go.ChangeMaps (open_string shut_string)
set_option linter.unusedVariables false

theorem own : ownKnob Try.prog.godebug = none := by kernel_rfl

/-- one class of bytes counted -/
def cnt (p : Nat → Bool) (l : List UInt8) : Nat := l.countP fun b => p b.toNat
def isS (n : Nat) : Bool := n == 39
def isD (n : Nat) : Bool := n == 34
def isU (n : Nat) : Bool := n == 40 || n == 41 || n == 32 || n == 9
def isB (n : Nat) : Bool := n == 92 || n == 10 || n == 13 || n == 12

theorem cnt_snoc (p : Nat → Bool) (s : ByteArray) (k : Nat) (h : k < s.size) : cnt p (s.data.toList.take (k + 1)) = cnt p (s.data.toList.take k) + if p (s[k]'h).toNat then 1 else 0 := by
  rw [take_snoc s k h]; simp [cnt, List.countP_append, List.countP_cons]
theorem cnt_high (p : Nat → Bool) (hp : ∀ n, 128 ≤ n → p n = false) (s : ByteArray) (k : Nat) (h : k < s.size) (ha : 128 ≤ (s[k]'h).toNat) :
    cnt p (s.data.toList.take (k + (Utf8.decode s k).2)) = cnt p (s.data.toList.take k) := by
  obtain ⟨h1, h2⟩ := high_bytes s k h ha
  rw [take_next s k _ h1]
  simp only [cnt, List.countP_append, Nat.add_eq_left, List.countP_eq_zero, List.mem_map, List.mem_range]
  rintro b ⟨i, hi, rfl⟩
  rw [hp _ (h2 (k + i) (by omega) (by omega))]; simp
theorem cnt_le (p : Nat → Bool) (l : List UInt8) : cnt p l ≤ l.length := List.countP_le_length
theorem highS (n : Nat) (h : 128 ≤ n) : isS n = false := by simp [isS]; omega
theorem highD (n : Nat) (h : 128 ≤ n) : isD n = false := by simp [isD]; omega
theorem highU (n : Nat) (h : 128 ≤ n) : isU n = false := by simp [isU]; omega
theorem highB (n : Nat) (h : 128 ≤ n) : isB n = false := by simp [isB]; omega

/-- what the chooser answers, by the counts -/
def quoteOf (url : Bool) (s d u : Nat) : Int := if url = true ∧ d + u ≤ 1 ∧ s + u ≤ 1 then 0 else if s < d then 39 else 34

/-- the four counts over the first k bytes, in the three costs that the chooser keeps -/
def Costs (t : ByteArray) (k : Nat) (q s d : Int) : Prop :=
  q = cnt isS (t.data.toList.take k) + cnt isD (t.data.toList.take k) + cnt isU (t.data.toList.take k) + cnt isB (t.data.toList.take k) ∧
  s = 2 + cnt isS (t.data.toList.take k) + cnt isB (t.data.toList.take k) ∧ d = 2 + cnt isD (t.data.toList.take k) + cnt isB (t.data.toList.take k)
theorem costs_bd {t : ByteArray} {k : Nat} {q s d : Int} (h : Costs t k q s d) (hk : t.size ≤ 1048576) : 0 ≤ q ∧ q ≤ 5000000 ∧ 0 ≤ s ∧ s ≤ 5000000 ∧ 0 ≤ d ∧ d ≤ 5000000 := by
  have l : (t.data.toList.take k).length ≤ t.size := by rw [List.length_take]; have : t.data.toList.length = t.size := (by simp); omega
  have a := cnt_le isS (t.data.toList.take k)
  have b := cnt_le isD (t.data.toList.take k)
  have c := cnt_le isU (t.data.toList.take k)
  have e := cnt_le isB (t.data.toList.take k)
  obtain ⟨h1, h2, h3⟩ := h
  omega
theorem costs_high {t : ByteArray} {k : Nat} {q s d : Int} (h : Costs t k q s d) (hk : k < t.size) (ha : 128 ≤ (t[k]'hk).toNat) : Costs t (k + (Utf8.decode t k).2) q s d := by
  unfold Costs at *
  rw [cnt_high isS highS t k hk ha, cnt_high isD highD t k hk ha, cnt_high isU highU t k hk ha, cnt_high isB highB t k hk ha]; exact h
theorem costs_step {t : ByteArray} {k : Nat} {q s d q' s' d' : Int} (h : Costs t k q s d) (hk : k < t.size)
    (hq : q' = q + if isS (t[k]'hk).toNat || isD (t[k]'hk).toNat || isU (t[k]'hk).toNat || isB (t[k]'hk).toNat then 1 else 0)
    (hs : s' = s + if isS (t[k]'hk).toNat || isB (t[k]'hk).toNat then 1 else 0) (hd : d' = d + if isD (t[k]'hk).toNat || isB (t[k]'hk).toNat then 1 else 0) : Costs t (k + 1) q' s' d' := by
  obtain ⟨h1, h2, h3⟩ := h
  unfold Costs
  rw [cnt_snoc isS t k hk, cnt_snoc isD t k hk, cnt_snoc isU t k hk, cnt_snoc isB t k hk]
  generalize (t[k]'hk).toNat = n at *
  subst hq hs hd h1 h2 h3
  have eS : isS n = decide (n = 39) := by rw [Bool.eq_iff_iff]; simp [isS]
  have eD : isD n = decide (n = 34) := by rw [Bool.eq_iff_iff]; simp [isD]
  have eU : isU n = decide (n = 40 ∨ n = 41 ∨ n = 32 ∨ n = 9) := by rw [Bool.eq_iff_iff]; simp [isU]; omega
  have eB : isB n = decide (n = 92 ∨ n = 10 ∨ n = 13 ∨ n = 12) := by rw [Bool.eq_iff_iff]; simp [isB]; omega
  rw [eS, eD, eU, eB]
  simp only [Bool.or_eq_true, decide_eq_true_eq]
  refine ⟨?_, ?_, ?_⟩ <;> (repeat' split) <;> omega

theorem costs_end {t : ByteArray} {k : Nat} {q s d : Int} {url : Bool} (h : Costs t k q s d) (hk : t.size ≤ k) :
    (url = true → q < s → q < d → 0 = quoteOf url (cnt isS t.data.toList) (cnt isD t.data.toList) (cnt isU t.data.toList)) ∧
    (¬ (url = true ∧ q < s ∧ q < d) → s < d → 39 = quoteOf url (cnt isS t.data.toList) (cnt isD t.data.toList) (cnt isU t.data.toList)) ∧
    (¬ (url = true ∧ q < s ∧ q < d) → d ≤ s → 34 = quoteOf url (cnt isS t.data.toList) (cnt isD t.data.toList) (cnt isU t.data.toList)) := by
  obtain ⟨c1, c2, c3⟩ := h
  rw [take_all t k hk] at c1 c2 c3
  generalize cnt isS t.data.toList = S at *
  generalize cnt isD t.data.toList = D at *
  generalize cnt isU t.data.toList = U at *
  generalize cnt isB t.data.toList = B at *
  unfold quoteOf
  refine ⟨fun e h1 h2 => ?_, fun e h1 => ?_, fun e h1 => ?_⟩
  · rw [if_pos ⟨e, by omega, by omega⟩]
  · rw [if_neg (fun h => e ⟨h.1, by omega, by omega⟩), if_pos (by omega)]
  · rw [if_neg (fun h => e ⟨h.1, by omega, by omega⟩), if_neg (by omega)]

theorem best_any (t : ByteArray) (url : Bool) (w : World) (ht : t.size ≤ 1048576) :
    Calls Try.prog 20 #[.string t, .bool url] w fun e w' => e = .returned (.int .u8 (quoteOf url (cnt isS t.data.toList) (cnt isD t.data.toList) (cnt isU t.data.toList))) ∧ Below w.heap.size w w' := by
  go_enter Try.func20, Try.ntmps20
  go_wp2
  go_loopw [5, 6, 7] (fun q s d w' => ∃ (pos : Nat) (x y z : Int), w' = w.iter t pos ∧ pos ≤ t.size ∧ q = .int .i64 x ∧ s = .int .i64 y ∧ d = .int .i64 z ∧ Hid (Costs t pos x y z)) (fun _ _ _ w' => t.size - w'.iterPos w.heap.size)
  case atStart => exact ⟨0, 0, 2, 2, rfl, by omega, rfl, rfl, rfl, Lib.hid (by simp [Costs, cnt])⟩
  case round =>
    obtain ⟨pos, x, y, z, rfl, hle, rfl, rfl, rfl, hc⟩ := hrel
    obtain ⟨b1, b2, b3, b4, b5, b6⟩ := costs_bd hc.out ht
    by_cases hp : pos < t.size
    · by_cases ha : (t[pos]'hp).toNat < 128
      · have hnx : ∀ ty, (Instr.next (.pointer (some ⟨w.heap.size, 0, none⟩)) true ty).run Try.prog (w.iter t pos) = _ := fun ty => run_next_ascii w t pos ty hp ha
        have hst := Lib.hid (fun q' s' d' => @costs_step t pos x y z q' s' d' hc.out hp)
        clear hc
        generalize (t[pos]'hp).toNat = n at hnx hst ha
        by_cases hcl : n = 39 ∨ n = 34 ∨ n = 40 ∨ n = 41 ∨ n = 32 ∨ n = 9 ∨ n = 92 ∨ n = 10 ∨ n = 13 ∨ n = 12
        · clear ha
          rcases hcl with rfl | rfl | rfl | rfl | rfl | rfl | rfl | rfl | rfl | rfl
          all_goals
            go_wp2
            go_roundw
            case rel => exact ⟨pos + 1, _, _, _, rfl, by omega, rfl, rfl, rfl, Lib.hid (hst.out _ _ _ (by simp [isS, isD, isU, isB]) (by simp [isS, isB]) (by simp [isD, isB]))⟩
            case measure => simp; omega
        · have g1 : ((n : Int) == 39) = false := by simp; omega
          have g2 : ((n : Int) == 34) = false := by simp; omega
          have g3 : ((n : Int) == 40) = false := by simp; omega
          have g4 : ((n : Int) == 41) = false := by simp; omega
          have g5 : ((n : Int) == 32) = false := by simp; omega
          have g6 : ((n : Int) == 9) = false := by simp; omega
          have g7 : ((n : Int) == 92) = false := by simp; omega
          have g8 : ((n : Int) == 10) = false := by simp; omega
          have g9 : ((n : Int) == 13) = false := by simp; omega
          have g10 : ((n : Int) == 12) = false := by simp; omega
          have hn := Lib.hid (show isS n = false ∧ isD n = false ∧ isU n = false ∧ isB n = false by simp [isS, isD, isU, isB]; omega)
          clear hcl
          go_wp2
          go_roundw
          case rel => exact ⟨pos + 1, _, _, _, rfl, by omega, rfl, rfl, rfl, Lib.hid (hst.out _ _ _ (by simp [hn.out]) (by simp [hn.out]) (by simp [hn.out]))⟩
          case measure => simp; omega
      · have hnx : ∀ ty, (Instr.next (.pointer (some ⟨w.heap.size, 0, none⟩)) true ty).run Try.prog (w.iter t pos) = _ := fun ty => run_next_any w t pos ty hp
        have hh := (decode_high t pos hp (by omega)).1
        have hw := width_pos t pos hp
        have hin := (high_bytes t pos hp (by omega)).1
        have hst := Lib.hid (costs_high hc.out hp (by omega))
        clear hc ha
        generalize (Utf8.decode t pos) = dd at *
        obtain ⟨n, wd⟩ := dd
        simp only at hnx hh hw hin hst
        have g1 : ((n : Int) == 39) = false := by simp; omega
        have g2 : ((n : Int) == 34) = false := by simp; omega
        have g3 : ((n : Int) == 40) = false := by simp; omega
        have g4 : ((n : Int) == 41) = false := by simp; omega
        have g5 : ((n : Int) == 32) = false := by simp; omega
        have g6 : ((n : Int) == 9) = false := by simp; omega
        have g7 : ((n : Int) == 92) = false := by simp; omega
        have g8 : ((n : Int) == 10) = false := by simp; omega
        have g9 : ((n : Int) == 13) = false := by simp; omega
        have g10 : ((n : Int) == 12) = false := by simp; omega
        go_wp2
        go_roundw
        case rel => exact ⟨pos + wd, _, _, _, rfl, hin, rfl, rfl, rfl, hst⟩
        case measure => simp; omega
    · have hnx : ∀ ty, (Instr.next (.pointer (some ⟨w.heap.size, 0, none⟩)) true ty).run Try.prog (w.iter t pos) = _ := fun ty => run_next_end w t pos ty hp
      have fin := Lib.hid (costs_end (url := url) hc.out (by omega))
      clear hc
      have hdec : (url = true ∧ x < y ∧ x < z) ∨ (¬ (url = true ∧ x < y ∧ x < z) ∧ y < z) ∨ (¬ (url = true ∧ x < y ∧ x < z) ∧ z ≤ y) := by
        by_cases h1 : url = true ∧ x < y ∧ x < z
        · exact .inl h1
        · by_cases h2 : y < z
          · exact .inr (.inl ⟨h1, h2⟩)
          · exact .inr (.inr ⟨h1, by omega⟩)
      rcases hdec with ⟨rfl, h1, h2⟩ | ⟨h1, h2⟩ | ⟨h1, h2⟩
      · have v := Lib.hid (fin.out.1 rfl h1 h2)
        go_wp2
        go_ret
        exact ⟨ret_int v.out, (Below.refl _ w).alloc (Nat.le_refl _) _⟩
      · have v := Lib.hid (fin.out.2.1 h1 h2)
        cases url
        · clear h1
          go_wp2
          go_ret
          exact ⟨ret_int v.out, (Below.refl _ w).alloc (Nat.le_refl _) _⟩
        · by_cases h3 : x < y
          · have h4 : ¬ x < z := fun h => h1 ⟨rfl, h3, h⟩
            clear h1
            go_wp2
            go_ret
            exact ⟨ret_int v.out, (Below.refl _ w).alloc (Nat.le_refl _) _⟩
          · clear h1
            go_wp2
            go_ret
            exact ⟨ret_int v.out, (Below.refl _ w).alloc (Nat.le_refl _) _⟩
      · have v := Lib.hid (fin.out.2.2 h1 h2)
        cases url
        · clear h1
          go_wp2
          go_ret
          exact ⟨ret_int v.out, (Below.refl _ w).alloc (Nat.le_refl _) _⟩
        · by_cases h3 : x < y
          · have h4 : ¬ x < z := fun h => h1 ⟨rfl, h3, h⟩
            clear h1
            go_wp2
            go_ret
            exact ⟨ret_int v.out, (Below.refl _ w).alloc (Nat.le_refl _) _⟩
          · clear h1
            go_wp2
            go_ret
            exact ⟨ret_int v.out, (Below.refl _ w).alloc (Nat.le_refl _) _⟩

theorem walk (a0 : ByteArray) (a1 : Bool) (w0 : a0.size ≤ maxLen) (w : World) :
    Calls Try.prog 6 #[.string a0, .bool a1] w fun e w' => e = .returned (.bool true) ∧ Below w.heap.size w w' := by
  unfold maxLen at w0
  by_cases h0 : a0.size ≤ 1048576
  · go_enter Try.func6, Try.ntmps6
    go_wp2
    go_loop [5, 6, 7, 8] (fun s d u i => ∃ k : Nat, k ≤ a0.size ∧ i = .int .i64 k ∧ s = .int .i64 (cnt isS (a0.data.toList.take k)) ∧ d = .int .i64 (cnt isD (a0.data.toList.take k)) ∧ u = .int .i64 (cnt isU (a0.data.toList.take k))) (fun _ _ _ i => a0.size - (intOf i).toNat)
    case atStart => exact ⟨0, by omega, rfl, rfl, rfl, rfl⟩
    case round =>
      obtain ⟨k, hk, rfl, rfl, rfl, rfl⟩ := hrel
      have l : (a0.data.toList.take k).length ≤ 1048576 := by rw [List.length_take]; have : a0.data.toList.length = a0.size := (by simp); omega
      have b1 := cnt_le isS (a0.data.toList.take k)
      have b2 := cnt_le isD (a0.data.toList.take k)
      have b3 := cnt_le isU (a0.data.toList.take k)
      rcases (show k = a0.size ∨ k < a0.size by omega) with rfl | hlt
      · rw [take_all a0 _ (Nat.le_refl _)] at *
        generalize hS : cnt isS a0.data.toList = S at *
        generalize hD : cnt isD a0.data.toList = D at *
        generalize hU : cnt isU a0.data.toList = U at *
        have HS := Lib.hid (And.intro hS (And.intro hD hU))
        clear hS hD hU
        have hdec : (a1 = true ∧ D + U ≤ 1 ∧ S + U ≤ 1) ∨ (¬ (a1 = true ∧ D + U ≤ 1 ∧ S + U ≤ 1) ∧ S < D) ∨ (¬ (a1 = true ∧ D + U ≤ 1 ∧ S + U ≤ 1) ∧ D ≤ S) := by
          by_cases h1 : a1 = true ∧ D + U ≤ 1 ∧ S + U ≤ 1
          · exact .inl h1
          · by_cases h2 : S < D
            · exact .inr (.inl ⟨h1, h2⟩)
            · exact .inr (.inr ⟨h1, by omega⟩)
        have HB : (Hid (∀ w' : World, Calls Try.prog 20 #[.string a0, .bool a1] w' fun e w'' => e = .returned (.int .u8 (quoteOf a1 S D U)) ∧ Below w'.heap.size w' w'')) := Lib.hid (fun w' => by
          have := best_any a0 a1 w' h0
          rw [HS.out.1, HS.out.2.1, HS.out.2.2] at this; exact this)
        rcases hdec with ⟨rfl, h1, h2⟩ | ⟨h1, h2⟩ | ⟨h1, h2⟩
        · have hq : quoteOf true S D U = 0 := by unfold quoteOf; rw [if_pos ⟨rfl, h1, h2⟩]
          go_wp2_with (first | (go_at_call 20; refine (HB.out _).mono ?_; rintro e w' ⟨rfl, hbel⟩) | go_in)
          go_ret
          exact ⟨rfl, hbel⟩
        · have hq : quoteOf a1 S D U = 39 := by unfold quoteOf; rw [if_neg h1, if_pos h2]
          cases a1
          · clear h1
            go_wp2_with (first | (go_at_call 20; refine (HB.out _).mono ?_; rintro e w' ⟨rfl, hbel⟩) | go_in)
            go_ret
            exact ⟨rfl, hbel⟩
          · by_cases h3 : D + U ≤ 1
            · have h4 : ¬ S + U ≤ 1 := fun h => h1 ⟨rfl, h3, h⟩
              clear h1
              go_wp2_with (first | (go_at_call 20; refine (HB.out _).mono ?_; rintro e w' ⟨rfl, hbel⟩) | go_in)
              all_goals go_ret
              all_goals exact ⟨rfl, hbel⟩
            · clear h1
              go_wp2_with (first | (go_at_call 20; refine (HB.out _).mono ?_; rintro e w' ⟨rfl, hbel⟩) | go_in)
              all_goals go_ret
              all_goals exact ⟨rfl, hbel⟩
        · have hq : quoteOf a1 S D U = 34 := by unfold quoteOf; rw [if_neg h1, if_neg (by omega)]
          cases a1
          · clear h1
            go_wp2_with (first | (go_at_call 20; refine (HB.out _).mono ?_; rintro e w' ⟨rfl, hbel⟩) | go_in)
            go_ret
            exact ⟨rfl, hbel⟩
          · by_cases h3 : D + U ≤ 1
            · have h4 : ¬ S + U ≤ 1 := fun h => h1 ⟨rfl, h3, h⟩
              clear h1
              go_wp2_with (first | (go_at_call 20; refine (HB.out _).mono ?_; rintro e w' ⟨rfl, hbel⟩) | go_in)
              all_goals go_ret
              all_goals exact ⟨rfl, hbel⟩
            · clear h1
              go_wp2_with (first | (go_at_call 20; refine (HB.out _).mono ?_; rintro e w' ⟨rfl, hbel⟩) | go_in)
              all_goals go_ret
              all_goals exact ⟨rfl, hbel⟩
      · have e1 := Lib.hid (cnt_snoc isS a0 k hlt)
        have e2 := Lib.hid (cnt_snoc isD a0 k hlt)
        have e3 := Lib.hid (cnt_snoc isU a0 k hlt)
        by_cases hcl : (a0[k]'hlt).toNat = 39 ∨ (a0[k]'hlt).toNat = 34 ∨ (a0[k]'hlt).toNat = 40 ∨ (a0[k]'hlt).toNat = 41 ∨ (a0[k]'hlt).toNat = 32 ∨ (a0[k]'hlt).toNat = 9
        · rcases hcl with hE | hE | hE | hE | hE | hE
          all_goals
            go_wp2
            go_round
            case rel => exact ⟨k + 1, by omega, by go_num, by rw [e1.out, hE]; simp [isS], by rw [e2.out, hE]; simp [isD], by rw [e3.out, hE]; simp [isU]⟩
            case measure => simp [intOf]; omega
        · have hn := Lib.hid (show isS (a0[k]'hlt).toNat = false ∧ isD (a0[k]'hlt).toNat = false ∧ isU (a0[k]'hlt).toNat = false by simp [isS, isD, isU]; omega)
          have g1 : (((a0[k]'hlt).toNat : Int) == 39) = false := by simp; omega
          have g2 : (((a0[k]'hlt).toNat : Int) == 34) = false := by simp; omega
          have g3 : (((a0[k]'hlt).toNat : Int) == 40) = false := by simp; omega
          have g4 : (((a0[k]'hlt).toNat : Int) == 41) = false := by simp; omega
          have g5 : (((a0[k]'hlt).toNat : Int) == 32) = false := by simp; omega
          have g6 : (((a0[k]'hlt).toNat : Int) == 9) = false := by simp; omega
          clear hcl
          go_wp2
          go_round
          case rel => exact ⟨k + 1, by omega, by go_num, by rw [e1.out, hn.out.1]; simp, by rw [e2.out, hn.out.2.1]; simp, by rw [e3.out, hn.out.2.2]; simp⟩
          case measure => simp [intOf]; omega
  · go_enter Try.func6, Try.ntmps6
    go_wp2
    all_goals go_ret
    all_goals exact ⟨rfl, Below.refl _ _⟩

set_option maxRecDepth 100000 in
theorem lifted (os : Os) (started : os.Started) (H : Type) (enc : TypeId × Value → H) :
    ReturnsInHanded {} Try.checked os 6 .any (Rows.fnBestQuoteMatchesByteCountModelSpec.pre6 enc Try.prog Try.f6 Rows.fnBestQuoteMatchesByteCountModelRow.domain false) (Rows.fnBestQuoteMatchesByteCountModelSpec.post enc Try.prog Try.f6 false true false false) := by
  refine returnsInHanded_of_change (C := Try.checked) own started (by kernel_rfl) Try.func6
    (ChangeSpec.witness6 (enc := enc) (C := Try.checked) false ⟨#[], #[.string ByteArray.empty, .bool false], []⟩ 8 (by kernel_rfl) (by kernel_rfl) (by kernel_rfl) (by kernel_rfl)) ?_
  intro W base args ds gs before hval0 hW hcnd _
  have hval : ∀ (j : Nat) t v, Try.f6.params[j]? = some t → args[j]? = some v → Value.okWide Try.prog W .any base t v := hval0
  have hW' := hW
  obtain ⟨p, q, hA0, hV, rfl, hfz, hnd⟩ := hW
  have hA : DataW.TrodAll enc Try.prog W 0 (fun _ => true) true Try.f6.params.toList args.toList ds p := hA0
  rw [Try.params6] at hA hval
  obtain ⟨v0, vs0, d0, ds0, p0, q0, hargs, rfl, rfl, h0, r0⟩ := trodAll_cons hA
  obtain ⟨v1, vs1, d1, ds1, p1, q1, rfl, rfl, rfl, h1, r1⟩ := trodAll_cons r0
  obtain ⟨rfl, rfl, rfl⟩ := trodAll_nil r1
  obtain rfl : args = #[v0, v1] := by cases args; simp_all
  obtain ⟨rfl, rfl⟩ := trodVars_none hV
  obtain ⟨a0, rfl, rfl, rfl, w0⟩ := open_string Try.underlying9 (hval 0 9 v0 rfl rfl) h0
  obtain ⟨a1, rfl, rfl, rfl⟩ := open_bool Try.underlying4 (hval 1 4 v1 rfl rfl) h1
  clear hA0 hval0
  simp only [List.append_nil] at hW'
  refine (walk a0 a1 w0 W).mono fun e W' ⟨he, bel⟩ => ?_
  subst he
  exact ⟨_, rfl, _, _, _, [], _, [], hW', trodAll_mk1 (shut_bool Try.underlying4 _), (trodAll_cons_mk (shut_string Try.underlying9 w0) (trodAll_cons_mk (shut_bool Try.underlying4 _) trodAll_mk0)), rfl, bel.frame _, fun h => by cases h⟩

theorem over : Rows.fnBestQuoteMatchesByteCountModelRow.holds Try.pinned (OpenSpec.ofChange Rows.fnBestQuoteMatchesByteCountModelSpec) :=
  OpenClaim.holds_of_wide 6 Try.f6 rfl rfl rfl rfl rfl rfl rfl ⟨rfl, rfl, rfl, rfl, rfl⟩ rfl rfl rfl rfl rfl (by kernel_rfl) Try.func6 (by kernel_rfl)
    (of_decide_eq_true (by kernel_rfl)) (by unfold Func.isWrapper; first | (rw [if_pos (by decide +kernel)]; kernel_rfl) | (rw [if_neg (by decide +kernel)]; exact ⟨rfl, rfl⟩))
    (fun os started H enc _ => lifted os started H enc)

/-- THE STATEMENT -/
theorem proved : Rows.FnBestQuoteMatchesByteCountModelSaid :=
  over
#print axioms proved
end Go.Proofs.Ytbicjmaogbaldaa.fnBestQuoteMatchesByteCountModel
