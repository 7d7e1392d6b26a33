/-
  bestQuoteCharForString. No statement of the seat is proved here.
-/
import Derived.Test.YtemohaonhcmpkaaFmtBase
import Derived.Test.YtemohaonhcmpkaaFmtRows
import Derived.WalkKit
import Derived.ProofKit
import Derived.WalkSpells
import Derived.WalkLawsBesides
import Derived.LoopTactic
namespace Go.Proofs.YtemohaonhcmpkaaFmt
open Go.RowKit
set_option linter.unusedVariables false
set_option linter.unusedSimpArgs false

/-- one class of bytes counted -/
def cntq (p : Nat → Bool) (l : List UInt8) : Nat := l.countP fun b => p b.toNat
def isS (n : Nat) : Bool := n == 39
def isD (n : Nat) : Bool := n == 34
def isU (n : Nat) : Bool := n == 40 || n == 41 || n == 32 || n == 9
def isB (n : Nat) : Bool := n == 92 || n == 10 || n == 13 || n == 12

theorem cnt_snoc (p : Nat → Bool) (s : ByteArray) (k : Nat) (h : k < s.size) : cntq p (s.data.toList.take (k + 1)) = cntq p (s.data.toList.take k) + if p (s[k]'h).toNat then 1 else 0 := by
  rw [take_snoc s k h]; simp [cntq, List.countP_append, List.countP_cons]
theorem cnt_high (p : Nat → Bool) (hp : ∀ n, 128 ≤ n → p n = false) (s : ByteArray) (k : Nat) (h : k < s.size) (ha : 128 ≤ (s[k]'h).toNat) :
    cntq p (s.data.toList.take (k + (Utf8.decode s k).2)) = cntq p (s.data.toList.take k) := by
  obtain ⟨h1, h2⟩ := high_bytes s k h ha
  rw [take_next s k _ h1]
  simp only [cntq, List.countP_append, Nat.add_eq_left, List.countP_eq_zero, List.mem_map, List.mem_range]
  rintro b ⟨i, hi, rfl⟩
  rw [hp _ (h2 (k + i) (by omega) (by omega))]; simp
theorem cnt_le (p : Nat → Bool) (l : List UInt8) : cntq p l ≤ l.length := List.countP_le_length
theorem highS (n : Nat) (h : 128 ≤ n) : isS n = false := by simp [isS]; omega
theorem highD (n : Nat) (h : 128 ≤ n) : isD n = false := by simp [isD]; omega
theorem highU (n : Nat) (h : 128 ≤ n) : isU n = false := by simp [isU]; omega
theorem highB (n : Nat) (h : 128 ≤ n) : isB n = false := by simp [isB]; omega

/-- what the chooser answers, by the counts -/
def quoteOf (url : Bool) (s d u : Nat) : Int := if url = true ∧ d + u ≤ 1 ∧ s + u ≤ 1 then 0 else if s < d then 39 else 34

/-- the four counts over the first k bytes, in the three costs that the chooser keeps -/
def Costs (t : ByteArray) (k : Nat) (q s d : Int) : Prop :=
  q = cntq isS (t.data.toList.take k) + cntq isD (t.data.toList.take k) + cntq isU (t.data.toList.take k) + cntq isB (t.data.toList.take k) ∧
  s = 2 + cntq isS (t.data.toList.take k) + cntq isB (t.data.toList.take k) ∧ d = 2 + cntq isD (t.data.toList.take k) + cntq isB (t.data.toList.take k)
theorem costs_bd {t : ByteArray} {k : Nat} {q s d : Int} (h : Costs t k q s d) (hk : t.size ≤ 1048576) : 0 ≤ q ∧ q ≤ 5000000 ∧ 0 ≤ s ∧ s ≤ 5000000 ∧ 0 ≤ d ∧ d ≤ 5000000 := by
  have l : (t.data.toList.take k).length ≤ t.size := by rw [List.length_take]; have : t.data.toList.length = t.size := (by simp); omega
  have a := cnt_le isS (t.data.toList.take k)
  have b := cnt_le isD (t.data.toList.take k)
  have c := cnt_le isU (t.data.toList.take k)
  have e := cnt_le isB (t.data.toList.take k)
  obtain ⟨h1, h2, h3⟩ := h
  omega
theorem costs_high {t : ByteArray} {k : Nat} {q s d : Int} (h : Costs t k q s d) (hk : k < t.size) (ha : 128 ≤ (t[k]'hk).toNat) : Costs t (k + (Utf8.decode t k).2) q s d := by
  unfold Costs at *
  rw [cnt_high isS highS t k hk ha, cnt_high isD highD t k hk ha, cnt_high isU highU t k hk ha, cnt_high isB highB t k hk ha]; exact h
theorem costs_step {t : ByteArray} {k : Nat} {q s d q' s' d' : Int} (h : Costs t k q s d) (hk : k < t.size)
    (hq : q' = q + if isS (t[k]'hk).toNat || isD (t[k]'hk).toNat || isU (t[k]'hk).toNat || isB (t[k]'hk).toNat then 1 else 0)
    (hs : s' = s + if isS (t[k]'hk).toNat || isB (t[k]'hk).toNat then 1 else 0) (hd : d' = d + if isD (t[k]'hk).toNat || isB (t[k]'hk).toNat then 1 else 0) : Costs t (k + 1) q' s' d' := by
  obtain ⟨h1, h2, h3⟩ := h
  unfold Costs
  rw [cnt_snoc isS t k hk, cnt_snoc isD t k hk, cnt_snoc isU t k hk, cnt_snoc isB t k hk]
  generalize (t[k]'hk).toNat = n at *
  subst hq hs hd h1 h2 h3
  have eS : isS n = decide (n = 39) := by rw [Bool.eq_iff_iff]; simp [isS]
  have eD : isD n = decide (n = 34) := by rw [Bool.eq_iff_iff]; simp [isD]
  have eU : isU n = decide (n = 40 ∨ n = 41 ∨ n = 32 ∨ n = 9) := by rw [Bool.eq_iff_iff]; simp [isU]; omega
  have eB : isB n = decide (n = 92 ∨ n = 10 ∨ n = 13 ∨ n = 12) := by rw [Bool.eq_iff_iff]; simp [isB]; omega
  rw [eS, eD, eU, eB]
  simp only [Bool.or_eq_true, decide_eq_true_eq]
  refine ⟨?_, ?_, ?_⟩ <;> (repeat' split) <;> omega

theorem costs_end {t : ByteArray} {k : Nat} {q s d : Int} {url : Bool} (h : Costs t k q s d) (hk : t.size ≤ k) :
    (url = true → q < s → q < d → 0 = quoteOf url (cntq isS t.data.toList) (cntq isD t.data.toList) (cntq isU t.data.toList)) ∧
    (¬ (url = true ∧ q < s ∧ q < d) → s < d → 39 = quoteOf url (cntq isS t.data.toList) (cntq isD t.data.toList) (cntq isU t.data.toList)) ∧
    (¬ (url = true ∧ q < s ∧ q < d) → d ≤ s → 34 = quoteOf url (cntq isS t.data.toList) (cntq isD t.data.toList) (cntq isU t.data.toList)) := by
  obtain ⟨c1, c2, c3⟩ := h
  rw [take_all t k hk] at c1 c2 c3
  generalize cntq isS t.data.toList = S at *
  generalize cntq isD t.data.toList = D at *
  generalize cntq isU t.data.toList = U at *
  generalize cntq isB t.data.toList = B at *
  unfold quoteOf
  refine ⟨fun e h1 h2 => ?_, fun e h1 => ?_, fun e h1 => ?_⟩
  · rw [if_pos ⟨e, by omega, by omega⟩]
  · rw [if_neg (fun h => e ⟨h.1, by omega, by omega⟩), if_pos (by omega)]
  · rw [if_neg (fun h => e ⟨h.1, by omega, by omega⟩), if_neg (by omega)]

theorem best_any (t : ByteArray) (url : Bool) (w : World) (ht : t.size ≤ 1048576) :
    Calls Tryf.prog 15 #[.string t, .bool url] w fun e w' => e = .returned (.int .u8 (quoteOf url (cntq isS t.data.toList) (cntq isD t.data.toList) (cntq isU t.data.toList))) ∧ Below w.heap.size w w' := by
  go_enter Tryf.func15, Tryf.ntmps15
  go_wp2
  go_loopw [5, 6, 7] (fun q s d w' => ∃ (pos : Nat) (x y z : Int), w' = w.iter t pos ∧ pos ≤ t.size ∧ q = .int .i64 x ∧ s = .int .i64 y ∧ d = .int .i64 z ∧ Hid (Costs t pos x y z)) (fun _ _ _ w' => t.size - w'.iterPos w.heap.size)
  case atStart => exact ⟨0, 0, 2, 2, rfl, by omega, rfl, rfl, rfl, Lib.hid (by simp [Costs, cntq])⟩
  case round =>
    obtain ⟨pos, x, y, z, rfl, hle, rfl, rfl, rfl, hc⟩ := hrel
    obtain ⟨b1, b2, b3, b4, b5, b6⟩ := costs_bd hc.out ht
    by_cases hp : pos < t.size
    · by_cases ha : (t[pos]'hp).toNat < 128
      · have hnx : ∀ ty, (Instr.next (.pointer (some ⟨w.heap.size, 0, none⟩)) true ty).run Tryf.prog (w.iter t pos) = _ := fun ty => run_next_ascii w t pos ty hp ha
        have hst := Lib.hid (fun q' s' d' => @costs_step t pos x y z q' s' d' hc.out hp)
        clear hc
        generalize (t[pos]'hp).toNat = n at hnx hst ha
        by_cases hcl : n = 39 ∨ n = 34 ∨ n = 40 ∨ n = 41 ∨ n = 32 ∨ n = 9 ∨ n = 92 ∨ n = 10 ∨ n = 13 ∨ n = 12
        · clear ha
          rcases hcl with rfl | rfl | rfl | rfl | rfl | rfl | rfl | rfl | rfl | rfl
          all_goals
            go_wp2
            go_roundw
            case rel => exact ⟨pos + 1, _, _, _, rfl, by omega, rfl, rfl, rfl, Lib.hid (hst.out _ _ _ (by simp [isS, isD, isU, isB]) (by simp [isS, isB]) (by simp [isD, isB]))⟩
            case measure => simp; omega
        · have g1 : ((n : Int) == 39) = false := by simp; omega
          have g2 : ((n : Int) == 34) = false := by simp; omega
          have g3 : ((n : Int) == 40) = false := by simp; omega
          have g4 : ((n : Int) == 41) = false := by simp; omega
          have g5 : ((n : Int) == 32) = false := by simp; omega
          have g6 : ((n : Int) == 9) = false := by simp; omega
          have g7 : ((n : Int) == 92) = false := by simp; omega
          have g8 : ((n : Int) == 10) = false := by simp; omega
          have g9 : ((n : Int) == 13) = false := by simp; omega
          have g10 : ((n : Int) == 12) = false := by simp; omega
          have hn := Lib.hid (show isS n = false ∧ isD n = false ∧ isU n = false ∧ isB n = false by simp [isS, isD, isU, isB]; omega)
          clear hcl
          go_wp2
          go_roundw
          case rel => exact ⟨pos + 1, _, _, _, rfl, by omega, rfl, rfl, rfl, Lib.hid (hst.out _ _ _ (by simp [hn.out]) (by simp [hn.out]) (by simp [hn.out]))⟩
          case measure => simp; omega
      · have hnx : ∀ ty, (Instr.next (.pointer (some ⟨w.heap.size, 0, none⟩)) true ty).run Tryf.prog (w.iter t pos) = _ := fun ty => run_next_any w t pos ty hp
        have hh := (decode_high t pos hp (by omega)).1
        have hw := width_pos t pos hp
        have hin := (high_bytes t pos hp (by omega)).1
        have hst := Lib.hid (costs_high hc.out hp (by omega))
        clear hc ha
        generalize (Utf8.decode t pos) = dd at *
        obtain ⟨n, wd⟩ := dd
        simp only at hnx hh hw hin hst
        have g1 : ((n : Int) == 39) = false := by simp; omega
        have g2 : ((n : Int) == 34) = false := by simp; omega
        have g3 : ((n : Int) == 40) = false := by simp; omega
        have g4 : ((n : Int) == 41) = false := by simp; omega
        have g5 : ((n : Int) == 32) = false := by simp; omega
        have g6 : ((n : Int) == 9) = false := by simp; omega
        have g7 : ((n : Int) == 92) = false := by simp; omega
        have g8 : ((n : Int) == 10) = false := by simp; omega
        have g9 : ((n : Int) == 13) = false := by simp; omega
        have g10 : ((n : Int) == 12) = false := by simp; omega
        go_wp2
        go_roundw
        case rel => exact ⟨pos + wd, _, _, _, rfl, hin, rfl, rfl, rfl, hst⟩
        case measure => simp; omega
    · have hnx : ∀ ty, (Instr.next (.pointer (some ⟨w.heap.size, 0, none⟩)) true ty).run Tryf.prog (w.iter t pos) = _ := fun ty => run_next_end w t pos ty hp
      have fin := Lib.hid (costs_end (url := url) hc.out (by omega))
      clear hc
      have hdec : (url = true ∧ x < y ∧ x < z) ∨ (¬ (url = true ∧ x < y ∧ x < z) ∧ y < z) ∨ (¬ (url = true ∧ x < y ∧ x < z) ∧ z ≤ y) := by
        by_cases h1 : url = true ∧ x < y ∧ x < z
        · exact .inl h1
        · by_cases h2 : y < z
          · exact .inr (.inl ⟨h1, h2⟩)
          · exact .inr (.inr ⟨h1, by omega⟩)
      rcases hdec with ⟨rfl, h1, h2⟩ | ⟨h1, h2⟩ | ⟨h1, h2⟩
      · have v := Lib.hid (fin.out.1 rfl h1 h2)
        go_wp2
        go_ret
        exact ⟨ret_int v.out, (Below.refl _ w).alloc (Nat.le_refl _) _⟩
      · have v := Lib.hid (fin.out.2.1 h1 h2)
        cases url
        · clear h1
          go_wp2
          go_ret
          exact ⟨ret_int v.out, (Below.refl _ w).alloc (Nat.le_refl _) _⟩
        · by_cases h3 : x < y
          · have h4 : ¬ x < z := fun h => h1 ⟨rfl, h3, h⟩
            clear h1
            go_wp2
            go_ret
            exact ⟨ret_int v.out, (Below.refl _ w).alloc (Nat.le_refl _) _⟩
          · clear h1
            go_wp2
            go_ret
            exact ⟨ret_int v.out, (Below.refl _ w).alloc (Nat.le_refl _) _⟩
      · have v := Lib.hid (fin.out.2.2 h1 h2)
        cases url
        · clear h1
          go_wp2
          go_ret
          exact ⟨ret_int v.out, (Below.refl _ w).alloc (Nat.le_refl _) _⟩
        · by_cases h3 : x < y
          · have h4 : ¬ x < z := fun h => h1 ⟨rfl, h3, h⟩
            clear h1
            go_wp2
            go_ret
            exact ⟨ret_int v.out, (Below.refl _ w).alloc (Nat.le_refl _) _⟩
          · clear h1
            go_wp2
            go_ret
            exact ⟨ret_int v.out, (Below.refl _ w).alloc (Nat.le_refl _) _⟩


end Go.Proofs.YtemohaonhcmpkaaFmt
