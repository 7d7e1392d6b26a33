/-
  The css lexer's wouldStartIdentifier and consumeNumeric. No statement of the seat is proved here.
-/
import Derived.Test.YtpgfepilblhpdaaDoorCssVe
import Derived.Deep.CutBlock
import Derived.IntWalk
namespace Go.Proofs.YtpgfepilblhpdaaDoor
open Go.RowKit
set_option linter.unusedVariables false
/-- what DecodeRuneInString gives for the text from n on -/
def dg (s : ByteArray) (n : Nat) : Nat × Nat := if n < s.size then Utf8.decode s n else (65533, 0)
theorem dg_go (s : ByteArray) (n : Nat) : Lib.decodeGo (s.extract n s.size) = dg s n := by
  unfold dg
  split
  · exact dec_ext s n (by omega)
  · exact dec_ext_end s n (by omega)
theorem dg_le (s : ByteArray) (n : Nat) (h : n ≤ s.size) : n + (dg s n).2 ≤ s.size := by
  unfold dg
  split
  · exact (width_le s n (by omega)).2
  · exact h
/-- behind a minus sign -/
def wsiM (s : ByteArray) (n : Nat) : Bool := if (dg s n).1 = 65533 ∧ (dg s n).2 ≤ 1 then false else if nameStart (dg s n).1 = true ∨ (dg s n).1 = 45 then true else if (dg s n).1 = 92 then !isNL (dg s (n + (dg s n).2)).1 else false
def wsi (s : ByteArray) (q : Nat) : Bool := nameStart (decAt s q).1 || (if (decAt s q).1 = 45 then wsiM s (q + (decAt s q).2) else vEsc s q)
theorem dri2 (s : ByteArray) (n x W : Nat) (w : World) (ht : Lib.Utf8Tabs 0 1 w) (h : dg s n = (x, W)) : Calls Tryd.prog 24 #[.string (s.extract n s.size)] w fun e w' => e = .returned (.tuple #[.int .i32 x, .int .i64 W]) ∧ Below w.heap.size w w' :=
  dri _ x W w ht (by rw [dg_go, h]) (by rw [dg_go, h])
set_option maxRecDepth 100000 in
set_option maxHeartbeats 2000000 in
theorem wsi_minus (p : Nat) (x : Lx) (b q : Nat) (w : World) (h : Lex w p x b q) (hc : (decAt x.s q).1 = 45) : Calls Tryd.prog 23 #[.pointer (some ⟨p, 0, none⟩)] w fun r w' => r = .returned (.bool (wsiM x.s (q + (decAt x.s q).2))) ∧ Below w.heap.size w w' := by
  obtain ⟨c10, c33, c35, c36, c37⟩ := h.cells
  rw [hc] at c35
  have hle := decAt_le x.s q h.hq
  have hsz := h.hsz
  have hp := h.lt
  have hp1 := h.p1
  have ht := h.tabs
  obtain ⟨n, hn⟩ : ∃ n, q + (decAt x.s q).2 = n := ⟨_, rfl⟩
  rw [hn] at c33 hle ⊢
  clear h hc hn c36 c37
  generalize x.s = s at *
  have e1 : (0 : Int) ≤ (n : Int) := by omega
  have e2 : (n : Int) ≤ (s.size : Int) := by omega
  obtain ⟨c, W, hd⟩ : ∃ c W, dg s n = (c, W) := ⟨_, _, rfl⟩
  have hW := dg_le s n hle
  rw [hd] at hW
  simp only at hW
  have HNS := Lib.hid (ns_any 45)
  have HN2 := Lib.hid (ns_any c)
  have HM : Hid (wsiM s n = if c = 65533 ∧ W ≤ 1 then false else if nameStart c = true ∨ c = 45 then true else if c = 92 then !isNL (dg s (n + W)).1 else false) := Lib.hid (by unfold wsiM; rw [hd])
  have HD := Lib.hid (And.intro ht hd)
  clear ht hd
  go_enter Tryd.func23, Tryd.ntmps23
  go_wp2_with fail
  refine (HNS.out _).mono ?_
  rintro e w1 ⟨rfl, rfl⟩
  rw [show nameStart 45 = false from rfl]
  go_wp2_with fail
  go_region_held3 (fun w' => w'.cell? ⟨p, 10, none⟩ = some (.string s) ∧ w'.cell? ⟨p, 33, none⟩ = some (.int .i64 n)) (first | go_keep | exact ⟨(hbel.cell (p := ⟨p, 10, none⟩) hp).trans c10, (hbel.cell (p := ⟨p, 33, none⟩) hp).trans c33⟩) (first | (go_at_call 24; refine (dri2 _ n c W w.drew HD.out.1 HD.out.2).mono ?_; rintro e w' ⟨rfl, hbel⟩))
  have hb0 : Below w.heap.size w w' := ((Below.refl w.heap.size w).drew).trans hbel
  have HB := Lib.hid hb0
  by_cases h1 : c = 65533
  · by_cases h2 : W ≤ 1
    · obtain rfl := h1
      have tw : decide ((W : Int) ≤ 1) = true := by simp; omega
      go_wp2_with fail
      go_ret
      exact ⟨ret_bool (by rw [HM.out, if_pos (by simp; omega)]), HB.out⟩
    · obtain rfl := h1
      have tw : decide ((W : Int) ≤ 1) = false := by simp; omega
      go_wp2_with fail
      refine (HN2.out _).mono ?_
      rintro e w1 ⟨rfl, rfl⟩
      rw [show nameStart ((65533 : Nat) : Int) = true from rfl]
      go_wp2_with fail
      go_ret
      exact ⟨ret_bool (by rw [HM.out, if_neg (by simp; omega), if_pos (by simp [show nameStart 65533 = true from rfl])]), HB.out⟩
  · have t1 : ((c : Int) == 65533) = false := beq_eq_false_iff_ne.2 (by omega)
    go_wp2_with fail
    refine (HN2.out _).mono ?_
    rintro e w1 ⟨rfl, rfl⟩
    cases hns : nameStart (c : Int)
    · have HS := Lib.hid hns
      clear hns
      by_cases h3 : c = 45
      · obtain rfl := h3
        go_wp2_with fail
        go_ret
        exact ⟨ret_bool (by rw [HM.out, if_neg (by simp), if_pos (by simp)]), HB.out⟩
      · have t3 : ((c : Int) == 45) = false := beq_eq_false_iff_ne.2 (by omega)
        by_cases h4 : c = 92
        · obtain rfl := h4
          obtain ⟨c2, W2, hd2⟩ : ∃ c W', dg s (n + W) = (c, W') := ⟨_, _, rfl⟩
          have HNL := Lib.hid (nl_any c2)
          have HM2 : Hid (wsiM s n = !isNL c2) := Lib.hid (by rw [HM.out, if_neg (by simp), if_neg (by decide), if_pos rfl, hd2])
          have HD2 := Lib.hid (And.intro (tabs_below HD.out.1 hb0 (by omega) (by omega)) hd2)
          have d10 := (hbel.cell (p := ⟨p, 10, none⟩) hp).trans c10
          have d33 := (hbel.cell (p := ⟨p, 33, none⟩) hp).trans c33
          have hp' : p < w'.heap.size := by have := hb0.size; omega
          clear hd2 hbel hb0 c10 c33
          have i1 : IntKind.i64.wrap ((n : Int) + (W : Int)) = (n : Int) + (W : Int) := IntWalk.i64_in _ (by omega)
          have j1 : (0 : Int) ≤ (n : Int) + (W : Int) := by omega
          have j2 : (n : Int) + (W : Int) ≤ (s.size : Int) := by omega
          have k1 : ((n : Int) + (W : Int)).toNat = n + W := by omega
          go_wp2_with fail
          go_region_held3 (fun w'' => w''.cell? ⟨p, 10, none⟩ = some (.string s) ∧ w''.cell? ⟨p, 33, none⟩ = some (.int .i64 n)) (first | go_keep | exact ⟨(hbel2.cell (p := ⟨p, 10, none⟩) hp').trans d10, (hbel2.cell (p := ⟨p, 33, none⟩) hp').trans d33⟩) (first | (go_at_call 24; refine (dri2 _ (n + W) c2 W2 w'.drew HD2.out.1 HD2.out.2).mono ?_; rintro e w'' ⟨rfl, hbel2⟩))
          go_wp2_with (go_at_call 30; refine (HNL.out _).mono ?_; rintro e w1 ⟨rfl, rfl⟩)
          go_ret
          exact ⟨ret_bool HM2.out.symm, (HB.out.drew).trans (hbel2.mono (by have := HB.out.size; simpa using this))⟩
        · have t4 : ((c : Int) == 92) = false := beq_eq_false_iff_ne.2 (by omega)
          go_wp2_with fail
          go_ret
          exact ⟨ret_bool (by rw [HM.out, if_neg (fun c => h1 c.1), if_neg (fun c => c.elim (fun c => by rw [HS.out] at c; cases c) h3), if_neg h4]), HB.out⟩
    · have HS := Lib.hid hns
      clear hns
      go_wp2_with fail
      go_ret
      exact ⟨ret_bool (by rw [HM.out, if_neg (fun c => h1 c.1), if_pos (.inl HS.out)]), HB.out⟩
theorem wsi_any (p : Nat) (x : Lx) (b q : Nat) (w : World) (h : Lex w p x b q) : Calls Tryd.prog 23 #[.pointer (some ⟨p, 0, none⟩)] w fun r w' => r = .returned (.bool (wsi x.s q)) ∧ Below w.heap.size w w' := by
  by_cases hc : (decAt x.s q).1 = 45
  · have := wsi_minus p x b q w h hc
    have e : wsi x.s q = wsiM x.s (q + (decAt x.s q).2) := by unfold wsi; rw [if_pos hc, hc]; rfl
    rwa [e]
  · obtain ⟨c10, c33, c35, c36, c37⟩ := h.cells
    obtain ⟨c, hcc⟩ : ∃ c, (decAt x.s q).1 = c := ⟨_, rfl⟩
    have e : wsi x.s q = (nameStart c || vEsc x.s q) := by unfold wsi; rw [if_neg hc, hcc]
    rw [e]
    rw [hcc] at c35 hc
    have t : (c == 45) = false := beq_eq_false_iff_ne.2 hc
    have HV := Lib.hid (vesc_any p x b q w h)
    have HNS := Lib.hid (ns_any c)
    clear h e hcc c10 c33 c36 c37 hc
    generalize vEsc x.s q = ve at *
    go_enter Tryd.func23, Tryd.ntmps23
    go_wp2_with fail
    refine (HNS.out _).mono ?_
    rintro e w1 ⟨rfl, rfl⟩
    cases hns : nameStart c
    · have HS := Lib.hid hns
      clear hns
      go_wp2_with fail
      refine HV.out.mono ?_
      rintro e w1 ⟨rfl, b1⟩
      have HB := Lib.hid b1
      clear b1
      go_wp2_with fail
      go_ret
      exact ⟨ret_bool (by rw [HS.out, Bool.false_or]), HB.out⟩
    · have HS := Lib.hid hns
      clear hns
      go_wp2_with fail
      go_ret
      exact ⟨ret_bool (by rw [HS.out, Bool.true_or]), Below.refl _ _⟩
end Go.Proofs.YtpgfepilblhpdaaDoor
