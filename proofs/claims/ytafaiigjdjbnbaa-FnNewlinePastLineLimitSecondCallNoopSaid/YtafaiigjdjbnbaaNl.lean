/-
  The walks behind FnNewlinePastLineLimitSecondCallNoop: zzCopyBytes, currentLineLength, printIndent, printNewlinePastLineLimit. No statement of the seat is proved here.
-/
import Derived.Test.YtafaiigjdjbnbaaPr
import Derived.Test.YtafaiigjdjbnbaaOwnCopy
namespace Go.Proofs.Ytafaiigjdjbnbaa
open Go.RowKit
set_option linter.unusedVariables false

theorem u8_size : (Try.prog.info? 5).map (·.size) = some 1 := by kernel_rfl
theorem copyB_any (ao : Option Addr) (cap : Nat) (zs : List Int) (w : World) (hin : In .u8 w ao zs) (hl : zs.length ≤ 4194304) :
    Calls Try.prog 11 #[.slice ao zs.length cap] w (Owned .u8 5 w zs) := by
  have hnil := fun (w : World) => Lib.run_eql_slice_nil (P := Try.prog) w 27 5 ao zs.length cap 0 0 Try.underlying27
  rcases ao with _ | x
  · have hz : zs = [] := by
      rcases hin with h | ⟨b, off, h, _⟩
      · exact h
      · cases h
    subst hz
    clear hin hl
    simp only [List.length_nil, Option.isNone_none] at hnil
    go_enter Try.func11, Try.ntmps11
    go_wp2
    go_ret
    exact ⟨_, rfl, Own.nil _ _ _ _, Below.refl _ _⟩
  · have HI := Lib.hid hin
    clear hin
    go_enter Try.func11, Try.ntmps11
    go_wp2_with (first | (at_make; refine wpList_make_ints _ rfl _ _ 27 rfl 5 .u8 1 Try.underlying27 u8_info zs.length rfl rfl (by omega) (by unfold maxLen; omega) ?_; intro w1 hb hgr; have hb1 : Below w.heap.size w w1 := (Below.refl _ w).grown hgr (Nat.le_refl _) (fun k h => by cases h); have HB := Lib.hid (And.intro hb hb1); clear hb hgr hb1) | (with_reducible refine wpList_copy_ints _ rfl (.tmp 9) (.tmp 10) 27 rfl 5 .u8 Try.underlying27 u8_size w.heap.size zs.length cap (some x) zs (List.replicate zs.length 0) rfl rfl HB.out.1 (by simp) (HI.out.kept HB.out.2) w.heap.size w HB.out.2 (Nat.le_refl _) ?_; intro w2 h2 h3; have HC := Lib.hid (And.intro h2 h3); clear h2 h3))
    go_ret
    exact ⟨_, rfl, Own.of_blk HC.out.1 (Nat.le_refl _) (by unfold maxLen; omega), HC.out.2⟩
def isBr (c : Int) : Bool := c == 13 || c == 10
/-- where the current line starts: behind the last break among the bytes from e on, else at s -/
def lf (zs : List Int) (e s : Nat) : Nat → Nat
  | 0 => s
  | k + 1 => if k + 1 ≤ e then s else if isBr (nth zs k) then k + 1 else lf zs e s k
theorem lf_stop (zs : List Int) (e s k : Nat) (h : k ≤ e) : lf zs e s k = s := by
  cases k with
  | zero => rfl
  | succ k => rw [lf, if_pos h]
theorem lf_le (zs : List Int) (e s : Nat) (hs : s ≤ e) : ∀ k, e ≤ k → lf zs e s k ≤ k
  | 0, h => by rw [lf]; omega
  | k + 1, h => by
    rw [lf]
    split
    · omega
    · split
      · omega
      · have := lf_le zs e s hs k (by omega); omega
theorem cll_any (B p : Nat) (l : Int) (m a : Bool) (zs : List Int) (s e : Nat) (w : World) (hp : Pr w B p l m a zs s e) (hl : zs.length ≤ 4194304) (hs : s ≤ e) (he : e ≤ zs.length) :
    Calls Try.prog 20 #[.pointer (some ⟨p, 0, none⟩)] w fun en w' => en = .returned (.int .i64 ((zs.length : Int) - (lf zs e s zs.length : Nat))) ∧ Pr w' B p l m a zs (lf zs e s zs.length : Nat) (zs.length : Nat) ∧ w.grownBy w' (some p) := by
  obtain ⟨ao, c, hb, hown, hne, hBp⟩ := hp
  obtain ⟨_, _, hfe, hin, _, _⟩ := hown.form
  cases hfe
  have hlt := hb.lt
  have c15 := (hb.cell 15).trans (pr15 _ _ _ _ _ _ _ _)
  have c41 := (hb.cell 41).trans (pr41 _ _ _ _ _ _ _ _)
  have c42 := (hb.cell 42).trans (pr42 _ _ _ _ _ _ _ _)
  have f41 := hb.free 41
  have f42 := hb.free 42
  have HP := Lib.hid (And.intro hb (And.intro hown hne))
  have HI := Lib.hid hin
  clear hb hown hne hin
  have fin : ∀ (x : Nat) (w' : World), w' = (w.setCell ⟨p, 41, none⟩ (.int .i64 x)).setCell ⟨p, 42, none⟩ (.int .i64 zs.length) → Pr w' B p l m a zs x (zs.length : Nat) ∧ w.grownBy w' (some p) := by
    intro x w' hw
    subst hw
    refine ⟨⟨ao, c, ?_, (HP.out.2.1.gb (gb_set (gb_refl _ (some p)) 41 none _) (.inr HP.out.2.2)).gb (gb_set (gb_refl _ (some p)) 42 none _) (.inr HP.out.2.2), HP.out.2.2, hBp⟩, gb_set (gb_set (gb_refl _ _) _ _ _) _ _ _⟩
    have := (HP.out.1.set 41 (.int .i64 x)).set 42 (.int .i64 zs.length)
    rw [set41, set42] at this
    exact this
  have fin2 : ∀ (w' : World), w' = w.setCell ⟨p, 42, none⟩ (.int .i64 zs.length) → Pr w' B p l m a zs s (zs.length : Nat) ∧ w.grownBy w' (some p) := by
    intro w' hw
    subst hw
    refine ⟨⟨ao, c, ?_, HP.out.2.1.gb (gb_set (gb_refl _ (some p)) 42 none _) (.inr HP.out.2.2), HP.out.2.2, hBp⟩, gb_set (gb_refl _ _) _ _ _⟩
    have := HP.out.1.set 42 (.int .i64 zs.length)
    rw [set42] at this
    exact this
  have F1 := Lib.hid fin
  have F2 := Lib.hid fin2
  clear fin fin2
  go_enter Try.func20, Try.ntmps20
  go_wp2
  go_loop [6, 7] (fun i _ => ∃ k : Nat, k ≤ zs.length ∧ e ≤ k ∧ i = .int .i64 k ∧ Hid (lf zs e s zs.length = lf zs e s k)) (fun i _ => (intOf i).toNat)
  case atStart => exact ⟨zs.length, Nat.le_refl _, he, rfl, Lib.hid rfl⟩
  case round =>
    obtain ⟨k, hk, hek, rfl, hla⟩ := hrel
    rcases (show k = e ∨ e < k by omega) with rfl | hpos
    · have E0 := Lib.hid (hla.out.trans (lf_stop zs k s k (Nat.le_refl _)))
      clear hla
      go_wp2
      go_ret
      rw [E0.out]
      exact ⟨rfl, F2.out _ rfl⟩
    · obtain ⟨j, rfl⟩ : ∃ j, k = j + 1 := ⟨k - 1, by omega⟩
      obtain ⟨b, off, hx, hblt, hc⟩ := HI.out.at (show j < zs.length by omega)
      subst hx
      by_cases hb : isBr (nth zs j) = true
      · have E1 : Hid (lf zs e s zs.length = j + 1) := Lib.hid (by rw [hla.out, lf, if_neg (by omega), if_pos hb])
        have htest : (nth zs j == 13) = true ∨ ((nth zs j == 13) = false ∧ (nth zs j == 10) = true) := by
          simp only [isBr, Bool.or_eq_true] at hb
          rcases Bool.eq_false_or_eq_true (nth zs j == 13) with h | h
          · exact .inl h
          · exact .inr ⟨h, by simpa [h] using hb⟩
        clear hla hb
        rcases htest with h13 | ⟨h13, h10⟩
        all_goals
          go_wp2
          go_ret
          rw [E1.out]
          exact ⟨rfl, F1.out (j + 1) _ rfl⟩
      · have E2 := Lib.hid (hla.out.trans (show lf zs e s (j + 1) = lf zs e s j by rw [lf, if_neg (by omega), if_neg hb]))
        have h13 : (nth zs j == 13) = false := by
          rcases Bool.eq_false_or_eq_true (nth zs j == 13) with h | h
          · exact absurd (by simp [isBr, h]) hb
          · exact h
        have h10 : (nth zs j == 10) = false := by
          rcases Bool.eq_false_or_eq_true (nth zs j == 10) with h | h
          · exact absurd (by simp [isBr, h]) hb
          · exact h
        clear hla hb
        go_wp2
        go_round
        case rel => exact ⟨j, by omega, by omega, rfl, E2⟩
        case measure => simp [intOf]
theorem pr3 (l : Int) (m a : Bool) (ao : Option Addr) (n c : Nat) (s e : Int) : (prCells l m a (.slice ao n c) s e)[3]? = some (.int .i64 l) := by kernel_rfl
theorem pr6 (l : Int) (m a : Bool) (ao : Option Addr) (n c : Nat) (s e : Int) : (prCells l m a (.slice ao n c) s e)[6]? = some (.bool m) := by kernel_rfl
/-- the number of levels that printIndent writes -/
def lev (l d : Int) : Nat := if l ≤ d * 2 then (l / 2).toNat else d.toNat
theorem spaces_step (zs : List Int) (k : Nat) : (zs ++ List.replicate (2 * k) 32) ++ byt ⟨#[32, 32]⟩ = zs ++ List.replicate (2 * (k + 1)) 32 := by
  have e : byt ⟨#[32, 32]⟩ = [32, 32] := rfl
  rw [e, List.append_assoc, show 2 * (k + 1) = 2 * k + 2 from by omega, ← List.replicate_append_replicate]; rfl
theorem sz2 : (⟨#[32, 32]⟩ : ByteArray).size = 2 := rfl
theorem indent_any (B p : Nat) (l : Int) (m a : Bool) (zs : List Int) (s e : Int) (d : Int) (w : World) (hp : Pr w B p l m a zs s e) (hl : zs.length ≤ 4194304) (hB : B ≤ w.heap.size) (h0 : 0 < l) (hl2 : l ≤ 9223372036854775807) (hd0 : -2147483648 ≤ d) (hd1 : d ≤ 65536) :
    Calls Try.prog 21 #[.pointer (some ⟨p, 0, none⟩), .int .i32 d] w fun en w' => en = .returned (.tuple #[]) ∧ Pr w' B p l m a (zs ++ List.replicate (2 * lev l d) 32) s e ∧ Below B w w' := by
  obtain ⟨N, hN⟩ : ∃ N, N = lev l d := ⟨_, rfl⟩
  rw [← hN]
  have hNb : N ≤ 65536 := by
    rw [hN, lev]
    split <;> omega
  have hp0 := hp
  obtain ⟨ao, c, hb, hown, hne, hBp⟩ := hp
  have hlt := hb.lt
  have c3 := (hb.cell 3).trans (pr3 _ _ _ _ _ _ _ _)
  have HP := Lib.hid hp0
  clear hb hown hne hp0
  have hcase : (decide (l ≤ d * 2) = true ∧ l / 2 ≤ 65536 ∧ Hid (N = (l / 2).toNat)) ∨ (decide (l ≤ d * 2) = false ∧ d * 2 < l ∧ Hid (N = d.toNat)) := by
    by_cases hc : l ≤ d * 2
    · exact .inl ⟨by simpa using hc, by omega, Lib.hid (by rw [hN, lev, if_pos hc])⟩
    · exact .inr ⟨by simpa using hc, by omega, Lib.hid (by rw [hN, lev, if_neg hc])⟩
  clear hN
  rcases hcase with ⟨hc, hc2, HQ⟩ | ⟨hc, hc2, HQ⟩
  all_goals
    go_enter Try.func21, Try.ntmps21
    go_wp2
    go_loopw [5] (fun i wr => ∃ k : Nat, k ≤ N ∧ i = .int .i64 k ∧ Hid (Pr wr B p l m a (zs ++ List.replicate (2 * k) 32) s e ∧ Below B w wr)) (fun i _ => N - (intOf i).toNat)
    case atStart => exact ⟨0, Nat.zero_le _, rfl, Lib.hid ⟨by simpa using HP.out, Below.refl _ _⟩⟩
    case round =>
      obtain ⟨k, hk, rfl, H⟩ := hrel
      rcases (show k = N ∨ k < N by omega) with rfl | hkn
      · first
          | (have t1 : l / 2 ≤ (k : Int) := by have := HQ.out; omega)
          | (have t1 : d ≤ (k : Int) := by have := HQ.out; omega)
        go_wp2
        go_end0
        exact ⟨rfl, H.out⟩
      · have t1 : (k : Int) < l / 2 := by have := HQ.out; omega
        try (have t2 : (k : Int) < d := by (have := HQ.out; omega))
        obtain ⟨ys, hys⟩ : ∃ ys, ys = zs ++ List.replicate (2 * k) 32 := ⟨_, rfl⟩
        have HY := Lib.hid hys
        have hyl : ys.length ≤ 8388608 := by rw [hys]; simp; omega
        have hH := H.out
        rw [← hys] at hH
        obtain ⟨⟨ao2, c2, hb2, hown2, hne2, _⟩, hbel⟩ := hH
        have hlt2 := hb2.lt
        have c15 := (hb2.cell 15).trans (pr15 _ _ _ _ _ _ _ _)
        have f15 := hb2.free 15
        have hBw := hbel.size
        have HQ2 := Lib.hid (And.intro hb2 (And.intro hown2 (And.intro hne2 hbel)))
        clear hys hb2 hown2 hne2 hbel
        go_wp2_with (at_builtin; refine wpList_push_string wr rfl (.tmp 39) (.const (.string ⟨#[32, 32]⟩)) 27 9 rfl B 5 Try.underlying27 Try.underlying9 u8_info _ ys rfl HQ2.out.2.1 ⟨#[32, 32]⟩ rfl (by rw [sz2]; omega) (by omega) ?_; intro v' w1 ho1 hg1; obtain ⟨ao', cap', rfl, hin', hc', hf'⟩ := ho1.form; have hb1 := HQ2.out.1.gb hg1.1 (fun h => HQ2.out.2.2.1 h.symm); have c15' := (hb1.cell 15).trans (pr15 _ _ _ _ _ _ _ _); have f15' := hb1.free 15; have hlt' := hb1.lt; have HO := Lib.hid (And.intro hb1 (And.intro ho1 hg1)); clear hb1 ho1 hg1 hin' hc' hf')
        go_roundw
        case rel =>
          have hne' : (Value.slice ao' (ys ++ byt ⟨#[32, 32]⟩).length cap').ownBlock ≠ some p := by
            rcases HO.out.2.2.2 with h | ⟨g, h, hg⟩
            · rw [h]; exact HQ2.out.2.2.1
            · rw [h]; intro c; cases c; omega
          refine ⟨k + 1, by omega, by go_num, Lib.hid ⟨?_, (HO.out.2.2.below HQ2.out.2.2.2 (by omega) (fun g h => (HQ2.out.2.1.lt g h).1)).setCell hBp _⟩⟩
          rw [← spaces_step, ← HY.out]
          refine ⟨ao', cap', ?_, HO.out.2.1.gb (gb_set (gb_refl _ _) 15 none _) (.inr hne'), hne', hBp⟩
          have := HO.out.1.set 15 (.slice ao' (ys ++ byt ⟨#[32, 32]⟩).length cap')
          rw [set15] at this
          rw [List.length_append] at this ⊢
          exact this
        case measure => simp [intOf]; omega
theorem lf_new (zs : List Int) (e s n : Nat) (he : e ≤ zs.length) (hle : zs.length ≤ e) : ∀ k, k ≤ 2 * n → lf (zs ++ [10] ++ List.replicate (2 * n) 32) e s (zs.length + 1 + k) = zs.length + 1
  | 0, h => by
    rw [Nat.add_zero, lf, if_neg (by omega), if_pos]
    have : nth (zs ++ [10] ++ List.replicate (2 * n) 32) zs.length = 10 := by simp [nth]
    rw [this]; rfl
  | k + 1, h => by
    rw [show zs.length + 1 + (k + 1) = (zs.length + 1 + k) + 1 from by omega, lf, if_neg (by omega), if_neg]
    · exact lf_new zs e s n he hle k (by omega)
    · have : nth (zs ++ [10] ++ List.replicate (2 * n) 32) (zs.length + 1 + k) = 32 := by
        unfold nth
        rw [List.getD_eq_getElem?_getD, List.getElem?_append_right (by simp)]
        have hk : zs.length + 1 + k - (zs ++ [10]).length = k := by simp
        rw [hk, List.getElem?_replicate, if_pos (by omega)]
        rfl
      rw [this]; decide
theorem pr_c3 {w : World} {B p : Nat} {l : Int} {m a : Bool} {zs : List Int} {s e : Int} (h : Pr w B p l m a zs s e) : w.cell? ⟨p, 3, none⟩ = some (.int .i64 l) ∧ w.cell? ⟨p, 6, none⟩ = some (.bool m) ∧ p < w.heap.size := by
  obtain ⟨ao, c, hb, _⟩ := h
  exact ⟨(hb.cell 3).trans (pr3 _ _ _ _ _ _ _ _), (hb.cell 6).trans (pr6 _ _ _ _ _ _ _ _), hb.lt⟩
/-- under the limit: nothing is printed -/
theorem nl_no (B p : Nat) (l : Int) (m a : Bool) (zs : List Int) (s e : Nat) (d : Int) (w : World) (hp : Pr w B p l m a zs s e) (hl : zs.length ≤ 4194304) (hs : s ≤ e) (he : e ≤ zs.length) (hlim : (zs.length : Int) - (lf zs e s zs.length : Nat) < l) :
    Calls Try.prog 17 #[.pointer (some ⟨p, 0, none⟩), .int .i32 d] w fun en w' => en = .returned (.bool false) ∧ Pr w' B p l m a zs (lf zs e s zs.length : Nat) (zs.length : Nat) ∧ w.grownBy w' (some p) := by
  obtain ⟨c3, c6, hlt⟩ := pr_c3 hp
  have HP := Lib.hid hp
  clear hp
  have ht : decide ((zs.length : Int) - (lf zs e s zs.length : Nat) < l) = true := by simpa using hlim
  go_enter Try.func17, Try.ntmps17
  go_wp2
  go_region_with ((go_at_call 20; refine (cll_any B p l m a zs s e _ (by exact HP.out) hl hs he).mono ?_; rintro en w1 ⟨rfl, hp1, hg1⟩; obtain ⟨c31, c61, hlt1⟩ := pr_c3 hp1; have H1 := Lib.hid (And.intro hp1 hg1); clear hp1 hg1))
  all_goals
    go_wp2
    go_ret
    exact ⟨rfl, H1.out.1, gb_trans (gb_drew (gb_refl _ _)) H1.out.2⟩
/-- the buffer behind a line break and the indent -/
def nlOut (m : Bool) (l d : Int) (zs : List Int) : List Int := zs ++ [10] ++ List.replicate (2 * (if m then 0 else lev l d)) 32
theorem nlOut_f (l d : Int) (zs : List Int) : nlOut false l d zs = zs ++ [10] ++ List.replicate (2 * lev l d) 32 := by simp [nlOut]
theorem nlOut_t (l d : Int) (zs : List Int) : nlOut true l d zs = zs ++ [10] := by simp [nlOut]
theorem sz10 : (⟨#[10]⟩ : ByteArray).size = 1 := rfl
theorem byt10 : byt ⟨#[10]⟩ = [10] := rfl
theorem below_drew' {B : Nat} {w w' : World} (h : Below B w.drew w') : Below B w w' := ((Below.refl B w).drew).trans h
/-- at the limit or past it: a line break and the indent -/
theorem nl_yes (B p : Nat) (l : Int) (m a : Bool) (zs : List Int) (s e : Nat) (d : Int) (w : World) (hp : Pr w B p l m a zs s e) (hB : B ≤ w.heap.size) (hl : zs.length ≤ 1048576) (hs : s ≤ e) (he : e ≤ zs.length) (hlim : l ≤ (zs.length : Int) - (lf zs e s zs.length : Nat)) (h0 : 0 < l) (hl2 : l ≤ 9223372036854775807) (hd0 : -2147483648 ≤ d) (hd1 : d ≤ 65536) :
    Calls Try.prog 17 #[.pointer (some ⟨p, 0, none⟩), .int .i32 d] w fun en w' => en = .returned (.bool true) ∧ Pr w' B p l m a (nlOut m l d zs) (lf zs e s zs.length : Nat) (zs.length : Nat) ∧ Below B w w' := by
  obtain ⟨c3, c6, hlt⟩ := pr_c3 hp
  have hBp : B ≤ p := by obtain ⟨_, _, _, _, _, h⟩ := hp; exact h
  have HP := Lib.hid hp
  clear hp
  have ht : decide ((zs.length : Int) - (lf zs e s zs.length : Nat) < l) = false := by simp; omega
  go_enter Try.func17, Try.ntmps17
  go_wp2
  go_region_with ((go_at_call 20; refine (cll_any B p l m a zs s e _ (by exact HP.out) (by omega) hs he).mono ?_; rintro en w1 ⟨rfl, hp1, hg1⟩; obtain ⟨c31, c61, hlt1⟩ := pr_c3 hp1; have H1 := Lib.hid (And.intro hp1 (below_gb (Below.refl B _) hg1 hB hBp)); have z1 := hg1.size; clear hp1 hg1))
  all_goals
    go_wp2_with fail
    refine (print_any B p l m a zs _ _ ⟨#[10]⟩ _ H1.out.1 (by rw [sz10]; omega) (Nat.le_trans hB z1)).mono ?_
    rintro en w2 ⟨rfl, hp2, b2, _⟩
    rw [byt10] at hp2
    obtain ⟨c32, c62, hlt2⟩ := pr_c3 hp2
    have H2 := Lib.hid (And.intro hp2 (Below.trans (below_drew' H1.out.2) b2))
    have z2 := b2.size
    clear hp2 b2
    rcases m with _ | _
    · go_wp2_with fail
      refine (indent_any B p l false a (zs ++ [10]) _ _ d _ H2.out.1 (by simp; omega) (Nat.le_trans hB (Nat.le_trans z1 z2)) h0 hl2 hd0 hd1).mono ?_
      rintro en w3 ⟨rfl, hp3, b3⟩
      have H3 := Lib.hid (And.intro hp3 (H2.out.2.trans b3))
      clear hp3 b3
      go_wp2
      go_ret
      refine ⟨rfl, ?_, H3.out.2⟩
      rw [nlOut_f]
      exact H3.out.1
    · go_wp2
      go_ret
      exact ⟨rfl, by rw [nlOut_t]; exact H2.out.1, H2.out.2⟩
theorem zznl_no (B p : Nat) (l : Int) (m a : Bool) (zs : List Int) (s e : Nat) (d : Int) (w : World) (hp : Pr w B p l m a zs s e) (hl : zs.length ≤ 4194304) (hs : s ≤ e) (he : e ≤ zs.length) (hlim : (zs.length : Int) - (lf zs e s zs.length : Nat) < l) :
    Calls Try.prog 13 #[.pointer (some ⟨p, 0, none⟩), .int .i32 d] w fun en w' => en = .returned (.bool false) ∧ Pr w' B p l m a zs (lf zs e s zs.length : Nat) (zs.length : Nat) ∧ w.grownBy w' (some p) := by
  have HP := Lib.hid hp
  clear hp
  go_enter Try.func13, Try.ntmps13
  go_wp2_with fail
  refine (nl_no B p l m a zs s e d _ HP.out hl hs he hlim).mono ?_
  rintro en w1 ⟨rfl, h⟩
  have H := Lib.hid h
  clear h
  go_wp2
  go_ret
  exact ⟨rfl, H.out⟩
theorem zznl_yes (B p : Nat) (l : Int) (m a : Bool) (zs : List Int) (s e : Nat) (d : Int) (w : World) (hp : Pr w B p l m a zs s e) (hB : B ≤ w.heap.size) (hl : zs.length ≤ 1048576) (hs : s ≤ e) (he : e ≤ zs.length) (hlim : l ≤ (zs.length : Int) - (lf zs e s zs.length : Nat)) (h0 : 0 < l) (hl2 : l ≤ 9223372036854775807) (hd0 : -2147483648 ≤ d) (hd1 : d ≤ 65536) :
    Calls Try.prog 13 #[.pointer (some ⟨p, 0, none⟩), .int .i32 d] w fun en w' => en = .returned (.bool true) ∧ Pr w' B p l m a (nlOut m l d zs) (lf zs e s zs.length : Nat) (zs.length : Nat) ∧ Below B w w' := by
  have HP := Lib.hid hp
  clear hp
  go_enter Try.func13, Try.ntmps13
  go_wp2_with fail
  refine (nl_yes B p l m a zs s e d _ HP.out hB hl hs he hlim h0 hl2 hd0 hd1).mono ?_
  rintro en w1 ⟨rfl, h⟩
  have H := Lib.hid h
  clear h
  go_wp2
  go_ret
  exact ⟨rfl, H.out⟩
theorem new125_any (B : Nat) (ao : Option Addr) (c : Nat) (l : Int) (m : Bool) (zs : List Int) (w : World) (hown : Own .u8 5 w B (.slice ao zs.length c) zs) (hB : B ≤ w.heap.size) :
    Calls Try.prog 12 #[.slice ao zs.length c, .int .i64 l, .bool m, .bool false] w fun en w' => en = .returned (.pointer (some ⟨w.heap.size, 0, none⟩)) ∧ Pr w' B w.heap.size l m false zs 0 0 ∧ Below w.heap.size w w' := by
  have HO := Lib.hid hown
  clear hown
  go_enter Try.func12, Try.ntmps12
  go_wp2_with (first | (refine wpList_build rfl 45 _ rfl [(3, .int .i64 l), (6, .bool m), (7, .bool false)] rfl (optCells l m false) (build45b l m false) ?_) | (refine wpList_build rfl 63 _ rfl [(0, .agg (optCells l m false)), (3, .slice ao zs.length c)] rfl (prCells l m false (.slice ao zs.length c) 0 0) (build63b l m false ao zs.length c) ?_))
  go_ret
  refine ⟨rfl, ⟨ao, c, Blk.new _ _ _, HO.out.alloc _, fun h => ?_, hB⟩, (Below.refl _ _).alloc (Nat.le_refl _) _⟩
  have := (HO.out.lt _ h).2
  omega
theorem css125_any (B p : Nat) (l : Int) (m a : Bool) (zs : List Int) (s e : Int) (w : World) (hp : Pr w B p l m a zs s e) :
    Calls Try.prog 14 #[.pointer (some ⟨p, 0, none⟩)] w fun en w' => (∃ v, en = .returned v ∧ Own .u8 5 w B v zs) ∧ w = w' := by
  obtain ⟨ao, c, hb, hown, hne, hBp⟩ := hp
  have c15 := (hb.cell 15).trans (pr15 _ _ _ _ _ _ _ _)
  have hlt := hb.lt
  have HO := Lib.hid hown
  clear hb hown hne
  go_enter Try.func14, Try.ntmps14
  go_wp2
  go_ret
  exact ⟨⟨_, rfl, HO.out⟩, rfl⟩
/-- zzBytesEqual on slices that read alike -/
theorem same_any (a0 a1 : Option Addr) (c0 c1 : Nat) (zs : List Int) (w : World) (h0 : In .u8 w a0 zs) (h1 : In .u8 w a1 zs) (hl : zs.length ≤ 4194304) :
    Calls Try.prog 15 #[.slice a0 zs.length c0, .slice a1 zs.length c1] w fun e w' => e = .returned (.bool true) ∧ Below w.heap.size w w' := by
  have HI := Lib.hid (And.intro h0 h1)
  clear h0 h1
  go_enter Try.func15, Try.ntmps15
  go_wp2
  go_loopw [5] (fun i wr => ∃ k : Nat, k ≤ zs.length ∧ i = .int .i64 k ∧ Below w.heap.size w wr) (fun i _ => zs.length - (intOf i).toNat)
  case atStart => exact ⟨0, Nat.zero_le _, rfl, Below.refl _ _⟩
  case round =>
    obtain ⟨k, hk, rfl, hb⟩ := hrel
    have HB := Lib.hid hb
    rcases (show k = zs.length ∨ k < zs.length by omega) with rfl | hlt
    · clear hb
      go_wp2
      go_ret
      exact ⟨rfl, HB.out⟩
    · obtain ⟨p0, o0, x0, l0, q0⟩ := HI.out.1.at hlt
      obtain ⟨p1, o1, x1, l1, q1⟩ := HI.out.2.at hlt
      subst x0 x1
      have r0 := (hb.cell (p := ⟨p0, o0 + k, none⟩) l0).trans q0
      have r1 := (hb.cell (p := ⟨p1, o1 + k, none⟩) l1).trans q1
      have i0 : (0 : Int) ≤ (k : Int) := by omega
      have i1 : (k : Int) < (zs.length : Int) := by omega
      clear hb q0 q1
      go_wp2
      go_quiet (fail)
      go_wp2
      go_roundw
      case rel => exact ⟨k + 1, by omega, by go_num, below_drewN HB.out _⟩
      case measure => simp [intOf]; omega
/-- zzIndentWidth is twice the levels -/
theorem width_any (l d : Int) (w : World) (h0 : 0 < l) (hl2 : l ≤ 9223372036854775807) (hd0 : -2147483648 ≤ d) (hd1 : d ≤ 65536) :
    Calls Try.prog 10 #[.int .i64 l, .int .i32 d] w fun e w' => e = .returned (.int .i64 (2 * (lev l d : Nat))) ∧ w = w' := by
  obtain ⟨R, hR⟩ : ∃ R : Int, R = 2 * (lev l d : Nat) := ⟨_, rfl⟩
  rw [← hR]
  have HR := Lib.hid hR
  clear hR
  rcases (show d ≤ 0 ∨ 0 < d by omega) with h1 | h1
  · go_enter Try.func10, Try.ntmps10
    go_wp2
    go_ret
    exact ⟨ret_int (by rw [HR.out]; unfold lev; split <;> omega), rfl⟩
  · rcases (show 2 * (l / 2) < 2 * d ∨ 2 * d ≤ 2 * (l / 2) by omega) with h2 | h2
    all_goals
      go_enter Try.func10, Try.ntmps10
      go_wp2
      go_ret
      exact ⟨ret_int (by rw [HR.out]; unfold lev; split <;> omega), rfl⟩
end Go.Proofs.Ytafaiigjdjbnbaa
