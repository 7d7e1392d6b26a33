/-
  The law, walked. No statement of the seat is proved here.
-/
import Derived.Test.YtgollalliomhfaaDoorLa
namespace Go.Proofs.YtgollalliomhfaaDoor
open Go.Maps Go.ChangeShapes Go.WideShapes Go.RowKit
set_option linter.unusedVariables false
set_option linter.unusedSimpArgs false

theorem lastS_step (ts : List ByteArray) (a : ByteArray) (i : Nat) (t : ByteArray) (ht : tth ts i = t) : lastS ts a (i + 1) = if t = a then some i else lastS ts a i := by
  unfold tth at ht
  show (if ts.getD i ByteArray.empty = a then some i else lastS ts a i) = _
  rw [ht]
theorem toL (t a : ByteArray) : (t.toList == a.toList) = (t == a) := by
  rw [Bool.eq_iff_iff, bytes_beq', Lib.toList_data, Lib.toList_data]
  cases t with | mk x => cases a with | mk y => rw [ByteArray.mk.injEq, beq_iff_eq, ← Array.toList_inj]
def lastV : Option Nat → Int | none => -1 | some j => (j : Int)
theorem Am.ne {w : World} {v : Value} {ss : List Int} (h : Am w v ss) (hs : ss ≠ []) : ∃ A, v = .slice (some ⟨A, 0, none⟩) ss.length ss.length ∧ Blk w A 40 (ims ss).toArray := by
  rcases h with h | ⟨A, h1, h2, _⟩
  · exact absurd h.1 hs
  · exact ⟨A, h1, h2⟩
theorem Am.nil_ {w : World} {v : Value} {ss : List Int} (h : Am w v ss) (hs : ss = []) : v = .slice none 0 0 := by
  rcases h with h | ⟨A, h1, h2, h3⟩
  · exact h.2
  · exact absurd hs h3
/-- what came and what is wanted are the same -/
theorem amb_two {w : World} {v u : Value} {ss : List Int} (h1 : Am w v ss) (h2 : Am w u ss) (h8 : ss.length ≤ 8) : Calls Tryd.prog 9 #[v, u] w fun e w' => e = .returned (.bool true) ∧ w.grownBy w' none :=
  amb_any v u ss w h1 h2 (fun e => by rw [h1.nil_ e, h2.nil_ e]) (fun e => h1.ne e) (fun e => h2.ne e) (fun e => h1.nil_ e) h8
theorem zero31 (w : World) : (zeroValue 31).run Tryd.prog w = .ok (.agg #[.int .u32 0, .int .u32 0]) w := by kernel_rfl
theorem below_of {w w' : World} (h : w.grownBy w' none) : Below w.heap.size w w' := ⟨h.os, h.tape, h.output, h.size, fun i hi => h.block i hi (by simp)⟩
theorem Am.past {w w' : World} {v : Value} {ss : List Int} {W : Nat} {cs : Array Value} (h : Am w v ss) (hW : Blk w W 31 cs) (hg : w.grownBy w' (some W)) : Am w' v ss := by
  rcases h with h | ⟨A, q1, q2, q3⟩
  · exact .inl h
  · refine .inr ⟨A, q1, q2.gb hg (fun e => ?_), q3⟩
    have e := Option.some.inj e
    unfold Blk at hW q2
    rw [← e, q2] at hW
    have h3 := Option.some.inj hW
    rw [Obj.cells.injEq] at h3
    exact absurd h3.2.1 (by decide)
theorem blkn {w : World} {t : TypeId} {cs : Array Value} (Z : Nat) (h : w.heap.size = Z) : Blk (w.alloc (.cells cs t)) Z t cs := by rw [← h]; exact Blk.new _ _ _
theorem blk3 (w : World) (Z : Nat) (h : w.heap.size = Z) : Blk (w.alloc (.cells #[.slice none 0 0, .int .i32 0, .int .u32 0, .int .u32 0, .int .u32 4, .slice none 0 0, .int .i32 0, .int .u32 0, .int .u32 0, .int .u32 6] 40)) Z 40 (ims [4, 6]).toArray := blkn Z h
theorem blk4 (w : World) (Z : Nat) (s : Int) (h : w.heap.size = Z) : Blk (w.alloc (.cells #[.slice none 0 0, .int .i32 0, .int .u32 0, .int .u32 0, .int .u32 s] 40)) Z 40 (ims [s]).toArray := blkn Z h
set_option maxHeartbeats 8000000 in
set_option maxRecDepth 100000 in
theorem law_any (a : ByteArray) (star ex rv lazy : Bool) (kl : Int) (ur um : Bool) (kd : Int) (ao : Option Addr) (n cap : Nat) (ts : List ByteArray) (hn : ts.length = n) (hs tx : Bool) (has : a.size ≤ maxLen) (hsz : ∀ t ∈ ts, t.size ≤ maxLen)
    (w : World) (hin : InS w ao ts) (hv : Iv w) :
    Calls Tryd.prog 3 #[.string a, .bool star, .bool ex, .bool rv, .bool lazy, .int .i32 kl, .bool ur, .bool um, .int .u8 kd, .slice ao n cap, .bool hs, .bool tx] w fun e w' => e = .returned (.bool true) ∧ Below w.heap.size w w' := by
  have HI := Lib.hid (And.intro hin (And.intro hv (And.intro hsz (And.intro has hn))))
  clear hin hv hsz has
  have HZB := Lib.hid (zb_any a star ex rv lazy ur um hs tx kl kd ao n cap ts hn w HI.out.1)
  have HFB := Lib.hid (fit_any a ao n cap ts hn w HI.out.1)
  clear hn
  go_enter Tryd.func3, Tryd.ntmps3
  go_upto_if 54 with (go_at_call 4; refine HZB.out.mono ?_; rintro e w2 ⟨⟨bb, rfl⟩, rfl⟩)
  cases bb
  · go_wp2_with fail
    go_ret
    exact ⟨rfl, Below.refl _ _⟩
  go_upto_if 58 with (go_at_call 5; refine HFB.out.mono ?_; rintro e w3 ⟨⟨bb, rfl, hb4⟩, rfl⟩; have HB4 := Lib.hid hb4; clear hb4)
  cases bb
  · go_wp2_with fail
    go_ret
    exact ⟨rfl, Below.refl _ _⟩
  have hn4 := HB4.out rfl
  obtain ⟨wo, rfl⟩ : ∃ wo : World, wo = w3 := ⟨_, rfl⟩
  have HBA := Lib.hid (ba_any a star ex rv lazy kl ur um kd ao n cap ts HI.out.2.2.2.2 hs tx hn4 (fun i hi => HI.out.2.2.1 _ (tth_mem ts i (by rw [HI.out.2.2.2.2]; exact hi))) wo HI.out.1)
  clear HZB HFB HB4
  go_upto_region 6 with (go_at_call 6; refine HBA.out.mono ?_; rintro e w4 ⟨F, P, R, M1, O, M2, so, rfl, hso, hF, hI, hO, hg⟩; have H4 := Lib.hid (And.intro hso (And.intro hF (And.intro hI (And.intro hO hg)))); clear hso hF hI hO hg)
  clear HBA
  have HNL := Lib.hid (nl_any (some ⟨F, 0, none⟩) 2 w4)
  go_upto_region 7 with (go_at_call 7; refine HNL.out.mono ?_; rintro e w5 ⟨C, rfl, hC, hc, hg⟩; have H5 := Lib.hid (And.intro hc hg); clear hc hg hC)
  clear HNL
  have HL : Hid (Lw w5 C F P R M1 O M2 n ts so a star ex rv lazy kl ur um kd (ldI tx) ∧ wo.grownBy w5 none) := Lib.hid (by
    obtain ⟨q1, q2, q3, q4, q5⟩ := H4.out
    obtain ⟨r1, r2⟩ := H5.out
    exact ⟨⟨r1, q2.gb r2 (by simp), q3.grow r2, q4.grow r2, HI.out.2.1.grow (gb_trans q5 r2)⟩, gb_trans q5 r2⟩)
  have hzadv := zadv_any C F P R M1 O M2 n ts so a star ex rv lazy kl ur um kd tx HI.out.2.2.2.1 w5 HL.out.1
  obtain rfl : so.isSome = hs := H4.out.1
  obtain ⟨⟨⟨s, l, r1, r2⟩, st, ss⟩, ht⟩ : ∃ t, tab (cls star ex rv lazy kl a ur um kd so.isSome (lastS ts a n).isSome tx) (((lastS ts a n).getD 0 : Nat) : Int) = t := ⟨_, rfl⟩
  unfold Rz at hzadv
  rw [ht] at hzadv
  have HZA := Lib.hid hzadv
  have HT := Lib.hid ht
  clear hzadv ht H4 H5
  have hz := zero31
  go_upto_region 8 with (go_at_call 8; refine HZA.out.mono ?_; rintro e w6 ⟨⟨av, rfl, hAm⟩, hg⟩; have H6 := Lib.hid (And.intro hAm hg); clear hAm hg)
  clear HZA
  obtain ⟨X, hX⟩ : ∃ X, w6.heap.size = X := ⟨_, rfl⟩
  rw [hX]
  have H7 : Hid (Blk (w6.alloc (.cells #[.int .u32 r1, .int .u32 r2] 31)) X 31 #[.int .u32 r1, .int .u32 r2] ∧ Am (w6.alloc (.cells #[.int .u32 r1, .int .u32 r2] 31)) av ss ∧ wo.grownBy (w6.alloc (.cells #[.int .u32 r1, .int .u32 r2] 31)) none) := Lib.hid (by
    have h2 := Blk.new w6 31 #[.int .u32 r1, .int .u32 r2]
    rw [hX] at h2
    have hg : w6.grownBy (w6.alloc (.cells #[.int .u32 r1, .int .u32 r2] 31)) none := gb_alloc (gb_refl _ _) _
    exact ⟨h2, H6.out.1.grow hg, gb_trans (gb_trans HL.out.2 H6.out.2) hg⟩)
  clear H6 hX HL
  generalize w6.alloc (.cells #[.int .u32 r1, .int .u32 r2] 31) = w7 at H7 ⊢
  obtain ⟨V, hV⟩ : ∃ V, w7.heap.size = V := ⟨_, rfl⟩
  go_upto_region 9 with fail
  have H8 : Hid (Blk (w7.alloc (.cells #[.int .u32 4294967295, .int .u32 4294967295] 31)) X 31 #[.int .u32 r1, .int .u32 r2] ∧ Blk (w7.alloc (.cells #[.int .u32 4294967295, .int .u32 4294967295] 31)) V 31 #[.int .u32 4294967295, .int .u32 4294967295] ∧ Am (w7.alloc (.cells #[.int .u32 4294967295, .int .u32 4294967295] 31)) av ss ∧ wo.grownBy (w7.alloc (.cells #[.int .u32 4294967295, .int .u32 4294967295] 31)) none) := Lib.hid (by
    have h2 := Blk.new w7 31 #[.int .u32 4294967295, .int .u32 4294967295]
    rw [hV] at h2
    have hg : w7.grownBy (w7.alloc (.cells #[.int .u32 4294967295, .int .u32 4294967295] 31)) none := gb_alloc (gb_refl _ _) _
    exact ⟨H7.out.1.gb hg (by simp), h2, H7.out.2.1.grow hg, gb_trans H7.out.2.2 hg⟩)
  clear H7 hV
  generalize w7.alloc (.cells #[.int .u32 4294967295, .int .u32 4294967295] 31) = w8 at H8 ⊢
  go_wp2_with fail
  go_loopg [34, 35] n (fun k x y wx => ∃ i : Nat, y = .int .i64 (i : Int) ∧ x = .int .i64 (lastV (lastS ts a i)) ∧ i ≤ n ∧ n - i ≤ k ∧ w8 = wx)
  case atStart => exact ⟨0, rfl, rfl, by omega, by omega, rfl⟩
  case round =>
    obtain ⟨i, rfl, rfl, hi, hk, rfl⟩ := hrel
    rcases (show n = i ∨ i < n by omega) with he | hlt
    rotate_left
    · obtain ⟨b9, o9, rfl, lt9, c9⟩ := HI.out.1.at (i := i) (by rw [HI.out.2.2.2.2]; exact hlt)
      have hc9 : w8.cell? ⟨b9, o9 + i, none⟩ = some (.string (tth ts i)) := (World.cell?_of_block (w := wo) (H8.out.2.2.2.block b9 lt9 (by simp))).trans c9
      obtain ⟨t, ht⟩ : ∃ t, tth ts i = t := ⟨_, rfl⟩
      rw [ht] at hc9
      have HS := Lib.hid (lastS_step ts a i t ht)
      clear c9 ht
      by_cases hta : t = a
      · subst hta
        have e1 : (t.toList == t.toList) = true := by simp
        go_wp2_with fail
        go_roundg (gk - 1)
        case measure => omega
        case rel => exact ⟨i + 1, by go_num, by rw [HS.out]; simp [lastV], by omega, by omega, rfl⟩
      · have e1 : (t.toList == a.toList) = false := by
          rw [toL]
          cases h : (t == a)
          · rfl
          · exact absurd ((bytes_beq' t a).1 h) hta
        have HTA := Lib.hid hta
        clear hta
        go_wp2_with fail
        go_roundg (gk - 1)
        case measure => omega
        case rel => exact ⟨i + 1, by go_num, by rw [HS.out]; simp [HTA.out], by omega, by omega, rfl⟩
    · obtain rfl := he
      obtain ⟨W, hW⟩ : ∃ W, w8.heap.size = W := ⟨_, rfl⟩
      go_upto_region 23 with fail
      have H9 : Hid (Blk (w8.alloc (.cells #[.int .u32 0, .int .u32 0] 31)) X 31 #[.int .u32 r1, .int .u32 r2] ∧ Blk (w8.alloc (.cells #[.int .u32 0, .int .u32 0] 31)) V 31 #[.int .u32 4294967295, .int .u32 4294967295] ∧ Blk (w8.alloc (.cells #[.int .u32 0, .int .u32 0] 31)) W 31 #[.int .u32 0, .int .u32 0] ∧ Am (w8.alloc (.cells #[.int .u32 0, .int .u32 0] 31)) av ss ∧ wo.grownBy (w8.alloc (.cells #[.int .u32 0, .int .u32 0] 31)) none ∧ X < W ∧ V < W ∧ wo.heap.size ≤ W) := Lib.hid (by
        have h2 := Blk.new w8 31 #[.int .u32 0, .int .u32 0]
        rw [hW] at h2
        have hg : w8.grownBy (w8.alloc (.cells #[.int .u32 0, .int .u32 0] 31)) none := gb_alloc (gb_refl _ _) _
        have l1 := H8.out.1.lt
        have l2 := H8.out.2.1.lt
        have l3 := H8.out.2.2.2.size
        exact ⟨H8.out.1.gb hg (by simp), H8.out.2.1.gb hg (by simp), h2, H8.out.2.2.1.grow hg, gb_trans H8.out.2.2.2 hg, by omega, by omega, by omega⟩)
      clear H8 hW hz
      generalize w8.alloc (.cells #[.int .u32 0, .int .u32 0] 31) = w9 at H9 ⊢
      have HAM : Hid (∀ wx, w9.grownBy wx (some W) → Am wx av ss) := Lib.hid (fun wx hg => H9.out.2.2.2.1.past H9.out.2.2.1 hg)
      have HFIN : Hid (∀ wx wE, w9.grownBy wx (some W) → wx.grownBy wE none → Below wo.heap.size wo wE) := Lib.hid (fun wx wE h1 h2 => below_of (gb_trans (gb_new (gb_trans (gb_none H9.out.2.2.2.2.1) h1) H9.out.2.2.2.2.2.2.2) h2))
      have x0 : w9.cell? ⟨X, 0, none⟩ = some (.int .u32 r1) := H9.out.1.cell 0
      have x1 : w9.cell? ⟨X, 1, none⟩ = some (.int .u32 r2) := H9.out.1.cell 1
      have lX := H9.out.1.lt
      have y0 : w9.cell? ⟨W, 0, none⟩ = some (.int .u32 0) := H9.out.2.2.1.cell 0
      have y1 : w9.cell? ⟨W, 1, none⟩ = some (.int .u32 0) := H9.out.2.2.1.cell 1
      have g0 := H9.out.2.2.1.free 0
      have g1 := H9.out.2.2.1.free 1
      have lW := H9.out.2.2.1.lt
      have hXW : ¬ X = W := by have := H9.out.2.2.2.2.2.1; omega
      have hVW : ¬ V = W := by have := H9.out.2.2.2.2.2.2.1; omega
      cases rv with
      | false =>
        have ht := HT.out
        rw [show cls star ex false lazy kl a ur um kd so.isSome (lastS ts a n).isSome tx = 0 by simp [cls]] at ht
        simp only [tab, Prod.mk.injEq] at ht
        obtain ⟨⟨rfl, rfl, rfl, rfl⟩, rfl, rfl⟩ := ht
        clear HT
        go_wp2_with (go_at_call 9; go_loud (refine (amb_two (HAM.out _ (by repeat (first | exact gb_refl _ _ | refine gb_alloc ?_ _ | refine gb_set ?_ _ _ _))) (.inl ⟨rfl, rfl⟩) (by simp)).mono ?_); go_loud (rintro e wE ⟨rfl, hgE⟩); go_loud (have HGE := Lib.hid hgE); go_loud (clear hgE))
        go_ret
        exact ⟨rfl, HFIN.out _ _ (by repeat (first | exact gb_refl _ _ | refine gb_alloc ?_ _ | refine gb_set ?_ _ _ _)) HGE.out⟩
      | true =>
        go_upto_region 25 with fail
        go_cut [101] (fun x wc => x = .bool (c2 star lazy kl a ur um) ∧ w9 = wc)
        case first =>
          clear x0 x1 lX y0 y1 g0 g1 lW hXW hVW
          cases star with
          | true =>
            go_wp2_with fail
            go_meet
            exact ⟨rfl, rfl⟩
          | false =>
            cases lazy with
            | true =>
              go_wp2_with fail
              go_meet
              exact ⟨rfl, rfl⟩
            | false =>
              by_cases hk0 : kl = 0
              · subst hk0
                cases hq : (a == (⟨#[100, 101, 102, 97, 117, 108, 116]⟩ : ByteArray)) with
                | true =>
                  have hq2 : (a.toList == [100, 101, 102, 97, 117, 108, 116]) = true := (dflt a).trans hq
                  have HQ := Lib.hid hq
                  clear hq
                  go_wp2_with fail
                  go_meet
                  exact ⟨by simp [c2, HQ.out], rfl⟩
                | false =>
                  have hq2 : (a.toList == [100, 101, 102, 97, 117, 108, 116]) = false := (dflt a).trans hq
                  have HQ := Lib.hid hq
                  clear hq
                  cases ur with
                  | true =>
                    go_wp2_with fail
                    go_meet
                    exact ⟨by simp [c2, HQ.out], rfl⟩
                  | false =>
                    cases um with
                    | true =>
                      go_wp2_with fail
                      go_meet
                      exact ⟨by simp [c2, HQ.out], rfl⟩
                    | false =>
                      go_wp2_with fail
                      go_meet
                      exact ⟨by simp [c2, HQ.out], rfl⟩
              · have e1 : decide (kl = 0) = false := by simp [hk0]
                have e2 : (kl == 0) = false := by simp [hk0]
                go_wp2_with fail
                go_meet
                exact ⟨by simp [c2, e2], rfl⟩
        case rest =>
          obtain ⟨rfl, rfl⟩ := hcut
          obtain ⟨bb, hbb⟩ : ∃ bb, c2 star lazy kl a ur um = bb := ⟨_, rfl⟩
          rw [hbb]
          have HBB := Lib.hid hbb
          clear hbb
          cases bb with
          | true =>
            have ht := HT.out
            rw [show cls star ex true lazy kl a ur um kd so.isSome (lastS ts a n).isSome tx = 1 by simp [cls, HBB.out]] at ht
            simp only [tab, Prod.mk.injEq] at ht
            obtain ⟨⟨rfl, rfl, rfl, rfl⟩, rfl, rfl⟩ := ht
            clear HT
            have v0 : w9.cell? ⟨V, 0, none⟩ = some (.int .u32 4294967295) := H9.out.2.1.cell 0
            have v1 : w9.cell? ⟨V, 1, none⟩ = some (.int .u32 4294967295) := H9.out.2.1.cell 1
            have lV := H9.out.2.1.lt
            go_wp2_with (go_at_call 9; go_loud (refine (amb_two (HAM.out _ (by repeat (first | exact gb_refl _ _ | refine gb_alloc ?_ _ | refine gb_set ?_ _ _ _))) (.inl ⟨rfl, rfl⟩) (by simp)).mono ?_); go_loud (rintro e wE ⟨rfl, hgE⟩); go_loud (have HGE := Lib.hid hgE); go_loud (clear hgE))
            go_ret
            exact ⟨rfl, HFIN.out _ _ (by repeat (first | exact gb_refl _ _ | refine gb_alloc ?_ _ | refine gb_set ?_ _ _ _)) HGE.out⟩
          | false =>
            by_cases hkd : kd = 1
            · subst hkd
              have ht := HT.out
              rw [show cls star ex true lazy kl a ur um 1 so.isSome (lastS ts a n).isSome tx = 2 by simp [cls, HBB.out]] at ht
              simp only [tab, Prod.mk.injEq] at ht
              obtain ⟨⟨rfl, rfl, rfl, rfl⟩, rfl, rfl⟩ := ht
              clear HT
              have v0 : w9.cell? ⟨V, 0, none⟩ = some (.int .u32 4294967295) := H9.out.2.1.cell 0
              have v1 : w9.cell? ⟨V, 1, none⟩ = some (.int .u32 4294967295) := H9.out.2.1.cell 1
              have lV := H9.out.2.1.lt
              go_wp2_with (go_at_call 9; go_loud (refine (amb_two (HAM.out _ (by repeat (first | exact gb_refl _ _ | refine gb_alloc ?_ _ | refine gb_set ?_ _ _ _))) (.inl ⟨rfl, rfl⟩) (by simp)).mono ?_); go_loud (rintro e wE ⟨rfl, hgE⟩); go_loud (have HGE := Lib.hid hgE); go_loud (clear hgE))
              go_ret
              exact ⟨rfl, HFIN.out _ _ (by repeat (first | exact gb_refl _ _ | refine gb_alloc ?_ _ | refine gb_set ?_ _ _ _)) HGE.out⟩
            · have e1 : decide (kd = 1) = false := by simp [hkd]
              have e2 : (kd == 1) = false := by simp [hkd]
              have HKD := Lib.hid hkd
              clear hkd
              obtain ⟨Z, hZ⟩ : ∃ Z, w9.heap.size = Z := ⟨_, rfl⟩
              go_upto_region 33 with fail
              obtain ⟨hss, hhss⟩ : ∃ hss, so.isSome = hss := ⟨_, rfl⟩
              rw [hhss]
              have HHS := Lib.hid hhss
              clear hhss
              go_cut [129] (fun x wc => x = .bool (star && hss) ∧ w9 = wc)
              case first =>
                cases star with
                | true =>
                  go_wp2_with fail
                  go_meet
                  exact ⟨rfl, rfl⟩
                | false =>
                  go_wp2_with fail
                  go_meet
                  exact ⟨rfl, rfl⟩
              case rest =>
                obtain ⟨rfl, rfl⟩ := hcut
                cases hsh : (star && hss) with
                | true =>
                  have HSH := Lib.hid hsh
                  clear hsh
                  have ht := HT.out
                  rw [show cls star ex true lazy kl a ur um kd so.isSome (lastS ts a n).isSome tx = 3 by unfold cls; rw [if_neg (by simp), if_neg (by simp [HBB.out]), if_neg HKD.out, if_pos (by rw [HHS.out, HSH.out])]] at ht
                  simp only [tab, Prod.mk.injEq] at ht
                  obtain ⟨⟨rfl, rfl, rfl, rfl⟩, rfl, rfl⟩ := ht
                  clear HT
                  have HZ := Lib.hid hZ
                  have lXZ : X < Z := by rw [← hZ]; exact lX
                  have lWZ : W < Z := by rw [← hZ]; exact lW
                  go_wp2_with (go_at_call 9; go_loud (refine (amb_two (HAM.out _ (by repeat (first | exact gb_refl _ _ | refine gb_alloc ?_ _ | refine gb_set ?_ _ _ _))) (.inr ⟨Z, rfl, blk3 _ Z (by simp [World.setCell, HZ.out]), by simp⟩) (by simp)).mono ?_); go_loud (rintro e wE ⟨rfl, hgE⟩); go_loud (have HGE := Lib.hid hgE); go_loud (clear hgE))
                  go_ret
                  exact ⟨rfl, HFIN.out _ _ (by repeat (first | exact gb_refl _ _ | refine gb_alloc ?_ _ | refine gb_set ?_ _ _ _)) HGE.out⟩
                | false =>
                  have HSH := Lib.hid hsh
                  clear hsh
                  cases hlj : lastS ts a n with
                  | some j =>
                    have hjn : j < n := lastS_lt hlj
                    have HLJ := Lib.hid hlj
                    clear hlj
                    rw [show lastV (some j) = (j : Int) from rfl]
                    have q1 := u32_small j (by omega)
                    have q2 : IntKind.u32.wrap ((j : Int) + 5) = (j : Int) + 5 := u32_small (j + 5) (by omega)
                    have q3 : IntKind.u32.wrap ((j : Int) + 7) = (j : Int) + 7 := u32_small (j + 7) (by omega)
                    have q4 : IntKind.i32.wrap (j : Int) = (j : Int) := by rw [IntKind.wrap_i32]; omega
                    have q5 : IntKind.i32.wrap ((j : Int) + 1) = (j : Int) + 1 := by rw [IntKind.wrap_i32]; omega
                    have q6 : decide ((0 : Int) ≤ (j : Int)) = true := by simp
                    clear hjn
                    have ht := HT.out
                    rw [show cls star ex true lazy kl a ur um kd so.isSome (lastS ts a n).isSome tx = 4 by unfold cls; rw [if_neg (by simp), if_neg (by simp [HBB.out]), if_neg HKD.out, if_neg (by rw [HHS.out, HSH.out]; simp), if_pos (by rw [HLJ.out]; rfl)], show (((lastS ts a n).getD 0 : Nat) : Int) = (j : Int) by rw [HLJ.out]; rfl] at ht
                    simp only [tab, Prod.mk.injEq] at ht
                    obtain ⟨⟨rfl, rfl, rfl, rfl⟩, rfl, rfl⟩ := ht
                    clear HT
                    have HZ := Lib.hid hZ
                    have lXZ : X < Z := by rw [← hZ]; exact lX
                    have lWZ : W < Z := by rw [← hZ]; exact lW
                    go_wp2_with (go_at_call 9; go_loud (refine (amb_two (HAM.out _ (by repeat (first | exact gb_refl _ _ | refine gb_alloc ?_ _ | refine gb_set ?_ _ _ _))) (.inr ⟨Z, rfl, blk4 _ Z _ (by simp [World.setCell, HZ.out]), by simp⟩) (by simp)).mono ?_); go_loud (rintro e wE ⟨rfl, hgE⟩); go_loud (have HGE := Lib.hid hgE); go_loud (clear hgE))
                    go_ret
                    exact ⟨rfl, HFIN.out _ _ (by repeat (first | exact gb_refl _ _ | refine gb_alloc ?_ _ | refine gb_set ?_ _ _ _)) HGE.out⟩
                  | none =>
                    have HLJ := Lib.hid hlj
                    clear hlj
                    rw [show lastV none = -1 from rfl]
                    by_cases hk3 : kd = 3
                    · have HK3 := Lib.hid hk3
                      subst hk3
                      have ht := HT.out
                      rw [show cls star ex true lazy kl a ur um 3 so.isSome (lastS ts a n).isSome tx = 5 by unfold cls; rw [if_neg (by simp), if_neg (by simp [HBB.out]), if_neg HKD.out, if_neg (by rw [HHS.out, HSH.out]; simp), if_neg (by rw [HLJ.out]; simp), if_pos rfl]] at ht
                      simp only [tab, Prod.mk.injEq] at ht
                      obtain ⟨⟨rfl, rfl, rfl, rfl⟩, rfl, rfl⟩ := ht
                      clear HT
                      go_wp2_with (go_at_call 9; go_loud (refine (amb_two (HAM.out _ (by repeat (first | exact gb_refl _ _ | refine gb_alloc ?_ _ | refine gb_set ?_ _ _ _))) (.inl ⟨rfl, rfl⟩) (by simp)).mono ?_); go_loud (rintro e wE ⟨rfl, hgE⟩); go_loud (have HGE := Lib.hid hgE); go_loud (clear hgE))
                      go_ret
                      exact ⟨rfl, HFIN.out _ _ (by repeat (first | exact gb_refl _ _ | refine gb_alloc ?_ _ | refine gb_set ?_ _ _ _)) HGE.out⟩
                    · have e3 : decide (kd = 3) = false := by simp [hk3]
                      have e4 : (kd == 3) = false := by simp [hk3]
                      have HK3 := Lib.hid hk3
                      clear hk3
                      go_upto_region 49 with fail
                      go_cut [159] (fun x wc => x = .bool (tx && ex) ∧ w9 = wc)
                      case first =>
                        cases tx with
                        | true =>
                          go_wp2_with fail
                          go_meet
                          exact ⟨rfl, rfl⟩
                        | false =>
                          go_wp2_with fail
                          go_meet
                          exact ⟨rfl, rfl⟩
                      case rest =>
                        obtain ⟨rfl, rfl⟩ := hcut
                        cases hte : (tx && ex) with
                        | true =>
                          have HTE := Lib.hid hte
                          clear hte
                          have ht := HT.out
                          rw [show cls star ex true lazy kl a ur um kd so.isSome (lastS ts a n).isSome tx = 6 by unfold cls; rw [if_neg (by simp), if_neg (by simp [HBB.out]), if_neg HKD.out, if_neg (by rw [HHS.out, HSH.out]; simp), if_neg (by rw [HLJ.out]; simp), if_neg HK3.out, if_pos HTE.out]] at ht
                          simp only [tab, Prod.mk.injEq] at ht
                          obtain ⟨⟨rfl, rfl, rfl, rfl⟩, rfl, rfl⟩ := ht
                          clear HT
                          go_wp2_with (go_at_call 9; go_loud (refine (amb_two (HAM.out _ (by repeat (first | exact gb_refl _ _ | refine gb_alloc ?_ _ | refine gb_set ?_ _ _ _))) (.inl ⟨rfl, rfl⟩) (by simp)).mono ?_); go_loud (rintro e wE ⟨rfl, hgE⟩); go_loud (have HGE := Lib.hid hgE); go_loud (clear hgE))
                          go_ret
                          exact ⟨rfl, HFIN.out _ _ (by repeat (first | exact gb_refl _ _ | refine gb_alloc ?_ _ | refine gb_set ?_ _ _ _)) HGE.out⟩
                        | false =>
                          have HTE := Lib.hid hte
                          clear hte
                          have ht := HT.out
                          rw [show cls star ex true lazy kl a ur um kd so.isSome (lastS ts a n).isSome tx = 7 by unfold cls; rw [if_neg (by simp), if_neg (by simp [HBB.out]), if_neg HKD.out, if_neg (by rw [HHS.out, HSH.out]; simp), if_neg (by rw [HLJ.out]; simp), if_neg HK3.out, if_neg (by rw [HTE.out]; simp)]] at ht
                          simp only [tab, Prod.mk.injEq] at ht
                          obtain ⟨⟨rfl, rfl, rfl, rfl⟩, rfl, rfl⟩ := ht
                          clear HT
                          go_wp2_with (go_at_call 9; go_loud (refine (amb_two (HAM.out _ (by repeat (first | exact gb_refl _ _ | refine gb_alloc ?_ _ | refine gb_set ?_ _ _ _))) (.inl ⟨rfl, rfl⟩) (by simp)).mono ?_); go_loud (rintro e wE ⟨rfl, hgE⟩); go_loud (have HGE := Lib.hid hgE); go_loud (clear hgE))
                          go_ret
                          exact ⟨rfl, HFIN.out _ _ (by repeat (first | exact gb_refl _ _ | refine gb_alloc ?_ _ | refine gb_set ?_ _ _ _)) HGE.out⟩
end Go.Proofs.YtgollalliomhfaaDoor
