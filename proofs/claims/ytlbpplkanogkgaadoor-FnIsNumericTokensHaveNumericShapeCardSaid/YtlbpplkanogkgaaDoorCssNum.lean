/-
  The css lexer's wouldStartIdentifier and consumeNumeric. No statement of the seat is proved here.
-/
import Derived.Test.YtlbpplkanogkgaaDoorCssName
import Derived.Deep.CutBlock
import Derived.IntWalk
namespace Go.Proofs.YtlbpplkanogkgaaDoor
open Go.RowKit
set_option linter.unusedVariables false
/-- what DecodeRuneInString gives for the text from n on -/
def dg (s : ByteArray) (n : Nat) : Nat × Nat := if n < s.size then Utf8.decode s n else (65533, 0)
theorem dg_go (s : ByteArray) (n : Nat) : Lib.decodeGo (s.extract n s.size) = dg s n := by
  unfold dg
  split
  · exact dec_ext s n (by omega)
  · exact dec_ext_end s n (by omega)
theorem dg_le (s : ByteArray) (n : Nat) (h : n ≤ s.size) : n + (dg s n).2 ≤ s.size := by
  unfold dg
  split
  · exact (width_le s n (by omega)).2
  · exact h
/-- behind a minus sign -/
def wsiM (s : ByteArray) (n : Nat) : Bool := if (dg s n).1 = 65533 ∧ (dg s n).2 ≤ 1 then false else if nameStart (dg s n).1 = true ∨ (dg s n).1 = 45 then true else if (dg s n).1 = 92 then !isNL (dg s (n + (dg s n).2)).1 else false
def wsi (s : ByteArray) (q : Nat) : Bool := nameStart (decAt s q).1 || (if (decAt s q).1 = 45 then wsiM s (q + (decAt s q).2) else vEsc s q)
theorem dri2 (s : ByteArray) (n x W : Nat) (w : World) (ht : Lib.Utf8Tabs 0 1 w) (h : dg s n = (x, W)) : Calls Tryd.prog 62 #[.string (s.extract n s.size)] w fun e w' => e = .returned (.tuple #[.int .i32 x, .int .i64 W]) ∧ Below w.heap.size w w' :=
  dri _ x W w ht (by rw [dg_go, h]) (by rw [dg_go, h])
set_option maxRecDepth 100000 in
set_option maxHeartbeats 2000000 in
theorem wsi_minus (p : Nat) (x : Lx) (b q : Nat) (w : World) (h : Lex w p x b q) (hc : (decAt x.s q).1 = 45) : Calls Tryd.prog 71 #[.pointer (some ⟨p, 0, none⟩)] w fun r w' => r = .returned (.bool (wsiM x.s (q + (decAt x.s q).2))) ∧ Below w.heap.size w w' := by
  obtain ⟨c10, c33, c35, c36, c37⟩ := h.cells
  rw [hc] at c35
  have hle := decAt_le x.s q h.hq
  have hsz := h.hsz
  have hp := h.lt
  have hp1 := h.p1
  have ht := h.tabs
  obtain ⟨n, hn⟩ : ∃ n, q + (decAt x.s q).2 = n := ⟨_, rfl⟩
  rw [hn] at c33 hle ⊢
  clear h hc hn c36 c37
  generalize x.s = s at *
  have e1 : (0 : Int) ≤ (n : Int) := by omega
  have e2 : (n : Int) ≤ (s.size : Int) := by omega
  obtain ⟨c, W, hd⟩ : ∃ c W, dg s n = (c, W) := ⟨_, _, rfl⟩
  have hW := dg_le s n hle
  rw [hd] at hW
  simp only at hW
  have HNS := Lib.hid (ns_any 45)
  have HN2 := Lib.hid (ns_any c)
  have HM : Hid (wsiM s n = if c = 65533 ∧ W ≤ 1 then false else if nameStart c = true ∨ c = 45 then true else if c = 92 then !isNL (dg s (n + W)).1 else false) := Lib.hid (by unfold wsiM; rw [hd])
  have HD := Lib.hid (And.intro ht hd)
  clear ht hd
  go_enter Tryd.func71, Tryd.ntmps71
  go_wp2_with fail
  refine (HNS.out _).mono ?_
  rintro e w1 ⟨rfl, rfl⟩
  rw [show nameStart 45 = false from rfl]
  go_wp2_with fail
  go_region_held3 (fun w' => w'.cell? ⟨p, 10, none⟩ = some (.string s) ∧ w'.cell? ⟨p, 33, none⟩ = some (.int .i64 n)) (first | go_keep | exact ⟨(hbel.cell (p := ⟨p, 10, none⟩) hp).trans c10, (hbel.cell (p := ⟨p, 33, none⟩) hp).trans c33⟩) (first | (go_at_call 62; refine (dri2 _ n c W w.drew HD.out.1 HD.out.2).mono ?_; rintro e w' ⟨rfl, hbel⟩))
  have hb0 : Below w.heap.size w w' := ((Below.refl w.heap.size w).drew).trans hbel
  have HB := Lib.hid hb0
  by_cases h1 : c = 65533
  · by_cases h2 : W ≤ 1
    · obtain rfl := h1
      have tw : decide ((W : Int) ≤ 1) = true := by simp; omega
      go_wp2_with fail
      go_ret
      exact ⟨ret_bool (by rw [HM.out, if_pos (by simp; omega)]), HB.out⟩
    · obtain rfl := h1
      have tw : decide ((W : Int) ≤ 1) = false := by simp; omega
      go_wp2_with fail
      refine (HN2.out _).mono ?_
      rintro e w1 ⟨rfl, rfl⟩
      rw [show nameStart ((65533 : Nat) : Int) = true from rfl]
      go_wp2_with fail
      go_ret
      exact ⟨ret_bool (by rw [HM.out, if_neg (by simp; omega), if_pos (by simp [show nameStart 65533 = true from rfl])]), HB.out⟩
  · have t1 : ((c : Int) == 65533) = false := beq_eq_false_iff_ne.2 (by omega)
    go_wp2_with fail
    refine (HN2.out _).mono ?_
    rintro e w1 ⟨rfl, rfl⟩
    cases hns : nameStart (c : Int)
    · have HS := Lib.hid hns
      clear hns
      by_cases h3 : c = 45
      · obtain rfl := h3
        go_wp2_with fail
        go_ret
        exact ⟨ret_bool (by rw [HM.out, if_neg (by simp), if_pos (by simp)]), HB.out⟩
      · have t3 : ((c : Int) == 45) = false := beq_eq_false_iff_ne.2 (by omega)
        by_cases h4 : c = 92
        · obtain rfl := h4
          obtain ⟨c2, W2, hd2⟩ : ∃ c W', dg s (n + W) = (c, W') := ⟨_, _, rfl⟩
          have HNL := Lib.hid (nl_any c2)
          have HM2 : Hid (wsiM s n = !isNL c2) := Lib.hid (by rw [HM.out, if_neg (by simp), if_neg (by decide), if_pos rfl, hd2])
          have HD2 := Lib.hid (And.intro (tabs_below HD.out.1 hb0 (by omega) (by omega)) hd2)
          have d10 := (hbel.cell (p := ⟨p, 10, none⟩) hp).trans c10
          have d33 := (hbel.cell (p := ⟨p, 33, none⟩) hp).trans c33
          have hp' : p < w'.heap.size := by have := hb0.size; omega
          clear hd2 hbel hb0 c10 c33
          have i1 : IntKind.i64.wrap ((n : Int) + (W : Int)) = (n : Int) + (W : Int) := IntWalk.i64_in _ (by omega)
          have j1 : (0 : Int) ≤ (n : Int) + (W : Int) := by omega
          have j2 : (n : Int) + (W : Int) ≤ (s.size : Int) := by omega
          have k1 : ((n : Int) + (W : Int)).toNat = n + W := by omega
          go_wp2_with fail
          go_region_held3 (fun w'' => w''.cell? ⟨p, 10, none⟩ = some (.string s) ∧ w''.cell? ⟨p, 33, none⟩ = some (.int .i64 n)) (first | go_keep | exact ⟨(hbel2.cell (p := ⟨p, 10, none⟩) hp').trans d10, (hbel2.cell (p := ⟨p, 33, none⟩) hp').trans d33⟩) (first | (go_at_call 62; refine (dri2 _ (n + W) c2 W2 w'.drew HD2.out.1 HD2.out.2).mono ?_; rintro e w'' ⟨rfl, hbel2⟩))
          go_wp2_with (go_at_call 81; refine (HNL.out _).mono ?_; rintro e w1 ⟨rfl, rfl⟩)
          go_ret
          exact ⟨ret_bool HM2.out.symm, (HB.out.drew).trans (hbel2.mono (by have := HB.out.size; simpa using this))⟩
        · have t4 : ((c : Int) == 92) = false := beq_eq_false_iff_ne.2 (by omega)
          go_wp2_with fail
          go_ret
          exact ⟨ret_bool (by rw [HM.out, if_neg (fun c => h1 c.1), if_neg (fun c => c.elim (fun c => by rw [HS.out] at c; cases c) h3), if_neg h4]), HB.out⟩
    · have HS := Lib.hid hns
      clear hns
      go_wp2_with fail
      go_ret
      exact ⟨ret_bool (by rw [HM.out, if_neg (fun c => h1 c.1), if_pos (.inl HS.out)]), HB.out⟩
theorem wsi_any (p : Nat) (x : Lx) (b q : Nat) (w : World) (h : Lex w p x b q) : Calls Tryd.prog 71 #[.pointer (some ⟨p, 0, none⟩)] w fun r w' => r = .returned (.bool (wsi x.s q)) ∧ Below w.heap.size w w' := by
  by_cases hc : (decAt x.s q).1 = 45
  · have := wsi_minus p x b q w h hc
    have e : wsi x.s q = wsiM x.s (q + (decAt x.s q).2) := by unfold wsi; rw [if_pos hc, hc]; rfl
    rwa [e]
  · obtain ⟨c10, c33, c35, c36, c37⟩ := h.cells
    obtain ⟨c, hcc⟩ : ∃ c, (decAt x.s q).1 = c := ⟨_, rfl⟩
    have e : wsi x.s q = (nameStart c || vEsc x.s q) := by unfold wsi; rw [if_neg hc, hcc]
    rw [e]
    rw [hcc] at c35 hc
    have t : (c == 45) = false := beq_eq_false_iff_ne.2 hc
    have HV := Lib.hid (vesc_any p x b q w h)
    have HNS := Lib.hid (ns_any c)
    clear h e hcc c10 c33 c36 c37 hc
    generalize vEsc x.s q = ve at *
    go_enter Tryd.func71, Tryd.ntmps71
    go_wp2_with fail
    refine (HNS.out _).mono ?_
    rintro e w1 ⟨rfl, rfl⟩
    cases hns : nameStart c
    · have HS := Lib.hid hns
      clear hns
      go_wp2_with fail
      refine HV.out.mono ?_
      rintro e w1 ⟨rfl, b1⟩
      have HB := Lib.hid b1
      clear b1
      go_wp2_with fail
      go_ret
      exact ⟨ret_bool (by rw [HS.out, Bool.false_or]), HB.out⟩
    · have HS := Lib.hid hns
      clear hns
      go_wp2_with fail
      go_ret
      exact ⟨ret_bool (by rw [HS.out, Bool.true_or]), Below.refl _ _⟩
def two (a b c : Int) : Bool := decide (c = a ∨ c = b)
theorem two_no {a b c : Int} (h1 : c ≠ a) (h2 : c ≠ b) : two a b c = false := by unfold two; simp [h1, h2]
theorem two_yes {a b c : Int} (h : c = a ∨ c = b) : two a b c = true := by unfold two; simpa using h
theorem u16_nat (n : Nat) : IntKind.u16.wrap (n : Int) = ((n % 65536 : Nat) : Int) := by
  rw [IntKind.wrap_u16]; omega
def isD (b : Nat) : Prop := 48 ≤ b ∧ b ≤ 57
def LastOK (s : ByteArray) (m : Nat) : Prop := isD (byteAt s (m - 1)) ∨ byteAt s (m - 1) = 46
/-- a number begins at q -/
def wsn (s : ByteArray) (q : Nat) : Prop := q < s.size ∧ (isD (byteAt s q) ∨ (byteAt s q = 46 ∧ q + 1 < s.size ∧ isD (byteAt s (q + 1))) ∨ ((byteAt s q = 43 ∨ byteAt s q = 45) ∧ q + 1 < s.size ∧ (isD (byteAt s (q + 1)) ∨ (byteAt s (q + 1) = 46 ∧ q + 2 < s.size ∧ isD (byteAt s (q + 2))))))
/-- behind the sign -/
def S1 (s : ByteArray) (q q1 : Nat) : Prop := q ≤ q1 ∧ q1 < s.size ∧ (isD (byteAt s q1) ∨ byteAt s q1 = 46)
/-- behind the leading digits -/
def S2 (s : ByteArray) (q q2 : Nat) : Prop := q ≤ q2 ∧ q2 ≤ s.size ∧ ((q < q2 ∧ isD (byteAt s (q2 - 1))) ∨ (q2 < s.size ∧ byteAt s q2 = 46))
/-- behind a number's part that ends well -/
def S3 (s : ByteArray) (q m : Nat) : Prop := q < m ∧ m ≤ s.size ∧ LastOK s m
def AtQ (w : World) (p : Nat) (x : Lx) (b : Nat) (P : Nat → Prop) (wc : World) : Prop := ∃ q1, P q1 ∧ Lex wc p x b q1 ∧ w.grownBy wc (some p)
/-- a run of digits from a on -/
def Digs (s : ByteArray) (a q2 : Nat) : Prop := a ≤ q2 ∧ ∀ j, a ≤ j → j < q2 → isD (byteAt s j)
def DRel (w : World) (p : Nat) (x : Lx) (b a k : Nat) (wr : World) : Prop := ∃ q2, Digs x.s a q2 ∧ Lex wr p x b q2 ∧ x.s.size - q2 ≤ k ∧ w.grownBy wr (some p)
theorem digs_last {s : ByteArray} {a q2 : Nat} (h : Digs s a q2) (hl : a < q2) : isD (byteAt s (q2 - 1)) := h.2 (q2 - 1) (by omega) (by omega)
/-- a code point that is no digit: so is the byte -/
theorem dig_cp {s : ByteArray} {q : Nat} (h : 48 ≤ (decAt s q).1 ∧ (decAt s q).1 ≤ 57) : q < s.size ∧ isD (byteAt s q) ∧ (decAt s q).2 = 1 := by
  obtain ⟨h1, h2, h3⟩ := decAt_small s q rfl (by omega) (by omega)
  exact ⟨h1, ⟨by omega, by omega⟩, h3⟩
theorem dig_no {s : ByteArray} {q : Nat} (h : ¬ (48 ≤ (decAt s q).1 ∧ (decAt s q).1 ≤ 57)) (hl : q < s.size) : ¬ isD (byteAt s q) := by
  rintro ⟨h1, h2⟩
  rw [decAt_ascii s q hl (by omega)] at h
  exact h ⟨by simp only; omega, by simp only; omega⟩
theorem cp_of {s : ByteArray} {q : Nat} (h : q < s.size) (hb : byteAt s q < 128) : (decAt s q).1 = byteAt s q ∧ (decAt s q).2 = 1 := by
  rw [decAt_ascii s q h hb]; exact ⟨rfl, rfl⟩
theorem s1_sign {s : ByteArray} {q : Nat} (h : wsn s q) (hc : (decAt s q).1 = 43 ∨ (decAt s q).1 = 45) : S1 s q (q + 1) := by
  obtain ⟨h1, h2⟩ := h
  have hb : byteAt s q = 43 ∨ byteAt s q = 45 := by
    rcases hc with hc | hc
    · have := (decAt_small s q hc (by omega) (by omega)).2.1; omega
    · have := (decAt_small s q hc (by omega) (by omega)).2.1; omega
  unfold isD at h2
  rcases h2 with h2 | h2 | ⟨_, h3, h4⟩
  · omega
  · omega
  · refine ⟨by omega, h3, ?_⟩
    rcases h4 with h4 | h4
    · exact .inl h4
    · exact .inr h4.1
theorem s1_none {s : ByteArray} {q : Nat} (h : wsn s q) (hc : ¬ ((decAt s q).1 = 43 ∨ (decAt s q).1 = 45)) : S1 s q q := by
  obtain ⟨h1, h2⟩ := h
  refine ⟨Nat.le_refl _, h1, ?_⟩
  rcases h2 with h2 | h2 | ⟨h2, _⟩
  · exact .inl h2
  · exact .inr h2.1
  · exfalso
    have := (cp_of h1 (by omega)).1
    omega
theorem s2_of {s : ByteArray} {q q1 q2 : Nat} (h : S1 s q q1) (hd : Digs s q1 q2) (hq : q2 ≤ s.size) (hc : ¬ (48 ≤ (decAt s q2).1 ∧ (decAt s q2).1 ≤ 57)) : S2 s q q2 := by
  obtain ⟨h1, h2, h3⟩ := h
  refine ⟨Nat.le_trans h1 hd.1, hq, ?_⟩
  rcases (show q1 < q2 ∨ q1 = q2 by have := hd.1; omega) with e | e
  · exact .inl ⟨by omega, digs_last hd e⟩
  · subst e
    rcases h3 with h3 | h3
    · exact absurd h3 (dig_no hc h2)
    · exact .inr ⟨h2, h3⟩
theorem s3_dot {s : ByteArray} {q q2 q3 : Nat} (h : S2 s q q2) (hl : q2 < s.size) (hb : byteAt s q2 = 46) (hd : Digs s (q2 + 1) q3) (hq : q3 ≤ s.size) : S3 s q q3 := by
  have h1 := h.1
  have hd1 := hd.1
  refine ⟨by omega, hq, ?_⟩
  rcases (show q2 + 1 < q3 ∨ q3 = q2 + 1 by omega) with e | e
  · exact .inl (digs_last hd e)
  · subst e; exact .inr hb
theorem s3_exp {s : ByteArray} {q q3 a q4 : Nat} (h : S3 s q q3) (ha : q3 ≤ a) (hal : a < s.size) (hda : isD (byteAt s a)) (hd : Digs s a q4) (hq : q4 ≤ s.size) (hc : ¬ (48 ≤ (decAt s q4).1 ∧ (decAt s q4).1 ≤ 57)) : S3 s q q4 := by
  have h1 := h.1
  have hd1 := hd.1
  rcases (show a < q4 ∨ q4 = a by omega) with e | e
  · exact ⟨by omega, hq, .inl (digs_last hd e)⟩
  · subst e; exact absurd hda (dig_no hc hal)
theorem wsi_prog {s : ByteArray} {m : Nat} (h : wsi s m = true) : nameCont (decAt s m).1 = true ∨ vEsc s m = true := by
  unfold wsi at h
  rcases (Bool.or_eq_true _ _ ▸ h) with h | h
  · exact .inl (by unfold nameCont; rw [h]; rfl)
  · by_cases hc : (decAt s m).1 = 45
    · exact .inl (by rw [hc]; rfl)
    · rw [if_neg hc] at h; exact .inr h
theorem s3_none {s : ByteArray} {q q2 : Nat} (h : S2 s q q2) (hc : (decAt s q2).1 ≠ 46) : S3 s q q2 := by
  obtain ⟨h1, h2, h3⟩ := h
  rcases h3 with ⟨h3, h4⟩ | ⟨h3, h4⟩
  · exact ⟨h3, h2, .inl h4⟩
  · exact absurd ((cp_of h3 (by omega)).1.trans (by rw [h4]; rfl)) hc
def NumTo (s : ByteArray) (st q q' kd un un0 : Nat) : Prop := ∃ m, S3 s q m ∧ ((kd = 26 ∧ wsi s m = true ∧ m < q' ∧ q' ≤ s.size ∧ un = (m - st) % 65536) ∨ (kd = 34 ∧ wsi s m = false ∧ m < s.size ∧ byteAt s m = 37 ∧ q' = m + 1 ∧ un = un0) ∨ (kd = 30 ∧ wsi s m = false ∧ (m < s.size → byteAt s m ≠ 37) ∧ q' = m ∧ un = un0))
def Numbered (w : World) (p : Nat) (x : Lx) (b q : Nat) (r : Ending) (w' : World) : Prop := ∃ q' kd un : Nat, r = .returned (.int .u8 kd) ∧ NumTo x.s x.st q q' kd un x.un ∧ Lex w' p {x with un := un} b q' ∧ w.grownBy w' (some p)
set_option maxRecDepth 100000 in
set_option maxHeartbeats 8000000 in
theorem num_any (p : Nat) (x : Lx) (b q : Nat) (w : World) (h : Lex w p x b q) (hw : wsn x.s q) : Calls Tryd.prog 58 #[.pointer (some ⟨p, 0, none⟩)] w (Numbered w p x b q) := by
  obtain ⟨c10, c33, c35, c36, c37⟩ := h.cells
  have hsz := h.hsz
  obtain ⟨c, hc⟩ : ∃ c, (decAt x.s q).1 = c := ⟨_, rfl⟩
  rw [hc] at c35
  have hq0 : q < x.s.size := hw.1
  have H := Lib.hid (And.intro h (And.intro hc hw))
  clear h hc hw c10 c33 c36 c37
  go_enter Tryd.func58, Tryd.ntmps58
  go_upto_region 1 with fail
  go_cut [16] (fun v wc => v = .bool (two 43 45 c) ∧ wc = w)
  case first => as_aux_lemma =>
    rcases (show c = 43 ∨ c = 45 ∨ (c ≠ 43 ∧ c ≠ 45) by omega) with rfl | rfl | ⟨hx1, hx2⟩
    · go_wp2_with fail
      go_meet
      exact ⟨rfl, rfl⟩
    · go_wp2_with fail
      go_meet
      exact ⟨rfl, rfl⟩
    · have t1 : (c == 43) = false := beq_eq_false_iff_ne.2 hx1
      have t2 : (c == 45) = false := beq_eq_false_iff_ne.2 hx2
      have HT := Lib.hid (two_no hx1 hx2)
      go_wp2_with fail
      go_meet
      exact ⟨by rw [HT.out], rfl⟩
  case rest =>
  obtain ⟨rfl, hcw⟩ := hcut
  have hcw1 := hcw.symm
  subst hcw1
  go_upto_if 16 with fail
  go_cut [] (fun wc => AtQ w p x b (S1 x.s q) wc)
  case first => as_aux_lemma =>
    by_cases hs : c = 43 ∨ c = 45
    · have hst := lex_step p x b q w H.out.1
      have hs1 := s1_sign H.out.2.2 (by rw [H.out.2.1]; exact hs)
      rw [(decAt_small x.s q H.out.2.1 (by omega) (by omega)).2.2] at hst
      have HST := Lib.hid (And.intro hst hs1)
      clear hst hs1
      rw [two_yes hs]
      clear hs
      all_goals
        go_wp2_with fail
        refine HST.out.1.mono ?_
        rintro e w1 ⟨rfl, l1, g1⟩
        have H1 := Lib.hid (And.intro l1 g1)
        clear l1 g1
        go_wp2_with fail
        go_meet
        exact ⟨q + 1, HST.out.2, H1.out.1, H1.out.2⟩
    · have HS1 := Lib.hid (s1_none H.out.2.2 (by rw [H.out.2.1]; exact hs))
      rw [two_no (fun e => hs (.inl e)) (fun e => hs (.inr e))]
      clear hs
      go_wp2_with fail
      go_meet
      exact ⟨q, HS1.out, H.out.1, gb_refl _ _⟩
  case rest =>
    obtain ⟨q1, hs1, l1, g1⟩ := hcut
    have L1 := Lib.hid (And.intro l1 (And.intro g1 hs1))
    clear l1 g1 hs1 c35
    go_upto_block 0 with fail
    go_cut [] (fun wc => AtQ w p x b (S2 x.s q) wc)
    case first => as_aux_lemma =>
      go_wp2_with fail
      go_loopg [] (x.s.size - q1) (fun k wr => DRel w p x b q1 k wr)
      case atStart => exact ⟨q1, ⟨Nat.le_refl _, fun j h1 h2 => by omega⟩, L1.out.1, Nat.le_refl _, L1.out.2.1⟩
      case round => as_aux_lemma =>
        obtain ⟨qd, hdg, ld, hkd, gd⟩ := hrel
        have hqd := ld.hq
        obtain ⟨z10, z33, z35, z36, z37⟩ := ld.cells
        obtain ⟨cd, hcd⟩ : ∃ c, (decAt x.s qd).1 = c := ⟨_, rfl⟩
        rw [hcd] at z35
        have HD := Lib.hid (And.intro ld (And.intro gd (And.intro hdg hcd)))
        clear ld gd hdg hcd z10 z33 z36 z37
        by_cases hdig : 48 ≤ cd ∧ cd ≤ 57
        · obtain ⟨hd1, hd2⟩ := hdig
          have HDC := Lib.hid (dig_cp (s := x.s) (q := qd) (by rw [HD.out.2.2.2]; exact ⟨hd1, hd2⟩))
          have hst := lex_step p x b qd wr HD.out.1
          rw [HDC.out.2.2] at hst
          have HST := Lib.hid hst
          clear hst
          go_wp2_with fail
          refine HST.out.mono ?_
          rintro e wd ⟨rfl, l9, g9⟩
          have H9 := Lib.hid (And.intro l9 (gb_trans HD.out.2.1 g9))
          clear l9 g9
          go_wp2_with fail
          go_roundg (x.s.size - (qd + 1))
          case measure => have := HDC.out.1; omega
          case rel =>
            refine ⟨qd + 1, ⟨by have := HD.out.2.2.1.1; omega, fun j h1 h2 => ?_⟩, H9.out.1, Nat.le_refl _, H9.out.2⟩
            rcases (show j < qd ∨ j = qd by omega) with h | rfl
            · exact HD.out.2.2.1.2 j h1 h
            · exact HDC.out.2.1
        · have HNO : Hid (¬ (48 ≤ (decAt x.s qd).1 ∧ (decAt x.s qd).1 ≤ 57)) := Lib.hid (by rw [HD.out.2.2.2]; exact hdig)
          rcases (show cd < 48 ∨ (48 ≤ cd ∧ 57 < cd) by omega) with hd1 | ⟨hd1, hd2⟩
          · clear hdig
            go_wp2_with fail
            go_meet
            exact ⟨qd, s2_of L1.out.2.2 HD.out.2.2.1 hqd HNO.out, HD.out.1, HD.out.2.1⟩
          · clear hdig
            go_wp2_with fail
            go_meet
            exact ⟨qd, s2_of L1.out.2.2 HD.out.2.2.1 hqd HNO.out, HD.out.1, HD.out.2.1⟩
    case rest =>
      obtain ⟨q2, hs2, l2, g2⟩ := hcut
      have L2 := Lib.hid (And.intro l2 (And.intro g2 hs2))
      obtain ⟨y10, y33, y35, y36, y37⟩ := l2.cells
      obtain ⟨c2, hc2⟩ : ∃ c, (decAt x.s q2).1 = c := ⟨_, rfl⟩
      rw [hc2] at y35
      have HC2 := Lib.hid hc2
      clear l2 g2 hs2 hc2 y10 y33 y36 y37
      go_upto_if 37 with fail
      go_cut [] (fun wc => AtQ w p x b (S3 x.s q) wc)
      case first => as_aux_lemma =>
        by_cases hdot : c2 = 46
        · have HDT := Lib.hid (decAt_small x.s q2 (HC2.out.trans hdot) (by omega) (by omega))
          subst hdot
          have hst := lex_step p x b q2 _ L2.out.1
          rw [HDT.out.2.2] at hst
          have HST := Lib.hid hst
          clear hst
          go_wp2_with fail
          refine HST.out.mono ?_
          rintro e w3 ⟨rfl, l3, g3⟩
          have H3 := Lib.hid (And.intro l3 (gb_trans L2.out.2.1 g3))
          clear l3 g3
          go_wp2_with fail
          go_loopg [] (x.s.size - (q2 + 1)) (fun k wr => DRel w p x b (q2 + 1) k wr)
          case atStart => exact ⟨(q2 + 1), ⟨Nat.le_refl _, fun j h1 h2 => by omega⟩, H3.out.1, Nat.le_refl _, H3.out.2⟩
          case round => as_aux_lemma =>
            obtain ⟨qd, hdg, ld, hkd, gd⟩ := hrel
            have hqd := ld.hq
            obtain ⟨z10, z33, z35, z36, z37⟩ := ld.cells
            obtain ⟨cd, hcd⟩ : ∃ c, (decAt x.s qd).1 = c := ⟨_, rfl⟩
            rw [hcd] at z35
            have HD := Lib.hid (And.intro ld (And.intro gd (And.intro hdg hcd)))
            clear ld gd hdg hcd z10 z33 z36 z37
            by_cases hdig : 48 ≤ cd ∧ cd ≤ 57
            · obtain ⟨hd1, hd2⟩ := hdig
              have HDC := Lib.hid (dig_cp (s := x.s) (q := qd) (by rw [HD.out.2.2.2]; exact ⟨hd1, hd2⟩))
              have hst := lex_step p x b qd wr HD.out.1
              rw [HDC.out.2.2] at hst
              have HST := Lib.hid hst
              clear hst
              go_wp2_with fail
              refine HST.out.mono ?_
              rintro e wd ⟨rfl, l9, g9⟩
              have H9 := Lib.hid (And.intro l9 (gb_trans HD.out.2.1 g9))
              clear l9 g9
              go_wp2_with fail
              go_roundg (x.s.size - (qd + 1))
              case measure => have := HDC.out.1; omega
              case rel =>
                refine ⟨qd + 1, ⟨by have := HD.out.2.2.1.1; omega, fun j h1 h2 => ?_⟩, H9.out.1, Nat.le_refl _, H9.out.2⟩
                rcases (show j < qd ∨ j = qd by omega) with h | rfl
                · exact HD.out.2.2.1.2 j h1 h
                · exact HDC.out.2.1
            · have HNO : Hid (¬ (48 ≤ (decAt x.s qd).1 ∧ (decAt x.s qd).1 ≤ 57)) := Lib.hid (by rw [HD.out.2.2.2]; exact hdig)
              rcases (show cd < 48 ∨ (48 ≤ cd ∧ 57 < cd) by omega) with hd1 | ⟨hd1, hd2⟩
              · clear hdig
                go_wp2_with fail
                go_meet
                exact ⟨qd, s3_dot L2.out.2.2 HDT.out.1 (by have := HDT.out.2.1; omega) HD.out.2.2.1 hqd, HD.out.1, HD.out.2.1⟩
              · clear hdig
                go_wp2_with fail
                go_meet
                exact ⟨qd, s3_dot L2.out.2.2 HDT.out.1 (by have := HDT.out.2.1; omega) HD.out.2.2.1 hqd, HD.out.1, HD.out.2.1⟩
        · have HS3 := Lib.hid (s3_none L2.out.2.2 (by rw [HC2.out]; exact hdot))
          have t1 : (c2 == 46) = false := beq_eq_false_iff_ne.2 hdot
          go_wp2_with fail
          go_meet
          exact ⟨q2, HS3.out, L2.out.1, L2.out.2.1⟩
      case rest =>
        obtain ⟨q3, hs3, l3, g3⟩ := hcut
        have L3 := Lib.hid (And.intro l3 (And.intro g3 hs3))
        have hq3 := l3.hq
        obtain ⟨v10, v33, v35, v36, v37⟩ := l3.cells
        obtain ⟨c3, hc3⟩ : ∃ c, (decAt x.s q3).1 = c := ⟨_, rfl⟩
        rw [hc3] at v35
        have HC3 := Lib.hid hc3
        clear l3 g3 hs3 hc3 v36 v37 y35 HC2
        go_upto_region 9 with fail
        go_cut [65] (fun v wx => v = .bool (two 101 69 c3) ∧ wx = wc)
        case first => as_aux_lemma =>
          rcases (show c3 = 101 ∨ c3 = 69 ∨ (c3 ≠ 101 ∧ c3 ≠ 69) by omega) with rfl | rfl | ⟨hx1, hx2⟩
          · go_wp2_with fail
            go_meet
            exact ⟨rfl, rfl⟩
          · go_wp2_with fail
            go_meet
            exact ⟨rfl, rfl⟩
          · have t1 : (c3 == 101) = false := beq_eq_false_iff_ne.2 hx1
            have t2 : (c3 == 69) = false := beq_eq_false_iff_ne.2 hx2
            have HT := Lib.hid (two_no hx1 hx2)
            go_wp2_with fail
            go_meet
            exact ⟨by rw [HT.out], rfl⟩
        case rest =>
        obtain ⟨rfl, hcw⟩ := hcut
        rename_i wold
        have hcw1 := hcw.symm
        subst hcw1
        go_upto_if 65 with fail
        go_cut [] (fun wx => AtQ w p x b (S3 x.s q) wx)
        case first => as_aux_lemma =>
          by_cases hs : c3 = 101 ∨ c3 = 69
          · rw [two_yes hs]
            have HE3 := Lib.hid (decAt_small x.s q3 HC3.out (by omega) (by omega))
            rw [HE3.out.2.2] at v33
            have hst := lex_step p x b q3 _ L3.out.1
            rw [HE3.out.2.2] at hst
            have HST := Lib.hid hst
            obtain ⟨n, hn⟩ : ∃ n, q3 + 1 = n := ⟨_, rfl⟩
            rw [hn] at v33 HST
            have hnq : q3 < n := by omega
            have hnq2 : n ≤ x.s.size := by have := HE3.out.1; omega
            clear hs hst hn
            by_cases l1 : n < x.s.size
            · have eb := byteAt_get x.s n l1
              have hbl := byteAt_lt x.s n
              obtain ⟨b4, hb4⟩ : ∃ b4, byteAt x.s n = b4 := ⟨_, rfl⟩
              rw [hb4] at eb hbl
              have HB4 := Lib.hid hb4
              clear hb4
              by_cases hsg : b4 = 43 ∨ b4 = 45
              · by_cases l2 : n + 1 < x.s.size
                · have eb2 := byteAt_get x.s (n + 1) l2
                  have hbl2 := byteAt_lt x.s (n + 1)
                  obtain ⟨b5, hb5⟩ : ∃ b5, byteAt x.s (n + 1) = b5 := ⟨_, rfl⟩
                  rw [hb5] at eb2 hbl2
                  have HB5 := Lib.hid hb5
                  clear hb5
                  by_cases hdg5 : 48 ≤ b5 ∧ b5 ≤ 57
                  · obtain ⟨hd51, hd52⟩ := hdg5
                    have hcn := cp_of l1 (show byteAt x.s n < 128 by rw [HB4.out]; omega)
                    rw [HB4.out] at hcn
                    have HCN := Lib.hid hcn
                    clear hcn
                    rcases hsg with rfl | rfl
                    all_goals
                      go_wp2_with fail
                      refine HST.out.mono ?_
                      rintro e w4 ⟨rfl, l4, g4⟩
                      obtain ⟨u10, u33, u35, u36, u37⟩ := l4.cells
                      rw [HCN.out.1] at u35
                      have hst2 := lex_step p x b n _ l4
                      rw [HCN.out.2] at hst2
                      have H4 := Lib.hid (And.intro l4 (And.intro (gb_trans L3.out.2.1 g4) hst2))
                      clear l4 g4 hst2 u10 u33 u36 u37
                      go_wp2_with fail
                      refine H4.out.2.2.mono ?_
                      rintro e w5 ⟨rfl, l5, g5⟩
                      have H5 := Lib.hid (And.intro l5 (gb_trans H4.out.2.1 g5))
                      clear l5 g5
                      go_wp2_with fail
                      go_loopg [] (x.s.size - (n + 1)) (fun k wr => DRel w p x b (n + 1) k wr)
                      case atStart => exact ⟨(n + 1), ⟨Nat.le_refl _, fun j h1 h2 => by omega⟩, H5.out.1, Nat.le_refl _, H5.out.2⟩
                      case round => as_aux_lemma =>
                        obtain ⟨qd, hdg, ld, hkd, gd⟩ := hrel
                        have hqd := ld.hq
                        obtain ⟨z10, z33, z35, z36, z37⟩ := ld.cells
                        obtain ⟨cd, hcd⟩ : ∃ c, (decAt x.s qd).1 = c := ⟨_, rfl⟩
                        rw [hcd] at z35
                        have HD := Lib.hid (And.intro ld (And.intro gd (And.intro hdg hcd)))
                        clear ld gd hdg hcd z10 z33 z36 z37
                        by_cases hdig : 48 ≤ cd ∧ cd ≤ 57
                        · obtain ⟨hd1, hd2⟩ := hdig
                          have HDC := Lib.hid (dig_cp (s := x.s) (q := qd) (by rw [HD.out.2.2.2]; exact ⟨hd1, hd2⟩))
                          have hst := lex_step p x b qd wr HD.out.1
                          rw [HDC.out.2.2] at hst
                          have HST := Lib.hid hst
                          clear hst
                          go_wp2_with fail
                          refine HST.out.mono ?_
                          rintro e wd ⟨rfl, l9, g9⟩
                          have H9 := Lib.hid (And.intro l9 (gb_trans HD.out.2.1 g9))
                          clear l9 g9
                          go_wp2_with fail
                          go_roundg (x.s.size - (qd + 1))
                          case measure => have := HDC.out.1; omega
                          case rel =>
                            refine ⟨qd + 1, ⟨by have := HD.out.2.2.1.1; omega, fun j h1 h2 => ?_⟩, H9.out.1, Nat.le_refl _, H9.out.2⟩
                            rcases (show j < qd ∨ j = qd by omega) with h | rfl
                            · exact HD.out.2.2.1.2 j h1 h
                            · exact HDC.out.2.1
                        · have HNO : Hid (¬ (48 ≤ (decAt x.s qd).1 ∧ (decAt x.s qd).1 ≤ 57)) := Lib.hid (by rw [HD.out.2.2.2]; exact hdig)
                          rcases (show cd < 48 ∨ (48 ≤ cd ∧ 57 < cd) by omega) with hd1 | ⟨hd1, hd2⟩
                          · clear hdig
                            go_wp2_with fail
                            go_meet
                            exact ⟨qd, s3_exp L3.out.2.2 (by omega) l2 (by rw [HB5.out]; exact ⟨hd51, hd52⟩) HD.out.2.2.1 hqd HNO.out, HD.out.1, HD.out.2.1⟩
                          · clear hdig
                            go_wp2_with fail
                            go_meet
                            exact ⟨qd, s3_exp L3.out.2.2 (by omega) l2 (by rw [HB5.out]; exact ⟨hd51, hd52⟩) HD.out.2.2.1 hqd HNO.out, HD.out.1, HD.out.2.1⟩
                  · rcases hsg with rfl | rfl
                    all_goals
                      rcases (show b5 < 48 ∨ (48 ≤ b5 ∧ 57 < b5) by omega) with hd1 | ⟨hd1, hd2⟩
                      all_goals
                        clear hdg5
                        go_wp2_with fail
                        go_meet
                        exact ⟨q3, L3.out.2.2, L3.out.1, L3.out.2.1⟩
                · rcases hsg with rfl | rfl
                  all_goals
                    go_wp2_with fail
                    go_meet
                    exact ⟨q3, L3.out.2.2, L3.out.1, L3.out.2.1⟩
              · have t1 : ((b4 : Int) == 43) = false := beq_eq_false_iff_ne.2 (by omega)
                have t2 : ((b4 : Int) == 45) = false := beq_eq_false_iff_ne.2 (by omega)
                by_cases hdg4 : 48 ≤ b4 ∧ b4 ≤ 57
                · obtain ⟨hd41, hd42⟩ := hdg4
                  have hcn := cp_of l1 (show byteAt x.s n < 128 by rw [HB4.out]; omega)
                  rw [HB4.out] at hcn
                  have HCN := Lib.hid hcn
                  clear hcn hsg
                  go_wp2_with fail
                  refine HST.out.mono ?_
                  rintro e w5 ⟨rfl, l5, g5⟩
                  obtain ⟨u10, u33, u35, u36, u37⟩ := l5.cells
                  rw [HCN.out.1] at u35
                  have H5 := Lib.hid (And.intro l5 (gb_trans L3.out.2.1 g5))
                  clear l5 g5 u10 u33 u36 u37
                  go_wp2_with fail
                  go_loopg [] (x.s.size - n) (fun k wr => DRel w p x b n k wr)
                  case atStart => exact ⟨n, ⟨Nat.le_refl _, fun j h1 h2 => by omega⟩, H5.out.1, Nat.le_refl _, H5.out.2⟩
                  case round => as_aux_lemma =>
                    obtain ⟨qd, hdg, ld, hkd, gd⟩ := hrel
                    have hqd := ld.hq
                    obtain ⟨z10, z33, z35, z36, z37⟩ := ld.cells
                    obtain ⟨cd, hcd⟩ : ∃ c, (decAt x.s qd).1 = c := ⟨_, rfl⟩
                    rw [hcd] at z35
                    have HD := Lib.hid (And.intro ld (And.intro gd (And.intro hdg hcd)))
                    clear ld gd hdg hcd z10 z33 z36 z37
                    by_cases hdig : 48 ≤ cd ∧ cd ≤ 57
                    · obtain ⟨hd1, hd2⟩ := hdig
                      have HDC := Lib.hid (dig_cp (s := x.s) (q := qd) (by rw [HD.out.2.2.2]; exact ⟨hd1, hd2⟩))
                      have hst := lex_step p x b qd wr HD.out.1
                      rw [HDC.out.2.2] at hst
                      have HST := Lib.hid hst
                      clear hst
                      go_wp2_with fail
                      refine HST.out.mono ?_
                      rintro e wd ⟨rfl, l9, g9⟩
                      have H9 := Lib.hid (And.intro l9 (gb_trans HD.out.2.1 g9))
                      clear l9 g9
                      go_wp2_with fail
                      go_roundg (x.s.size - (qd + 1))
                      case measure => have := HDC.out.1; omega
                      case rel =>
                        refine ⟨qd + 1, ⟨by have := HD.out.2.2.1.1; omega, fun j h1 h2 => ?_⟩, H9.out.1, Nat.le_refl _, H9.out.2⟩
                        rcases (show j < qd ∨ j = qd by omega) with h | rfl
                        · exact HD.out.2.2.1.2 j h1 h
                        · exact HDC.out.2.1
                    · have HNO : Hid (¬ (48 ≤ (decAt x.s qd).1 ∧ (decAt x.s qd).1 ≤ 57)) := Lib.hid (by rw [HD.out.2.2.2]; exact hdig)
                      rcases (show cd < 48 ∨ (48 ≤ cd ∧ 57 < cd) by omega) with hd1 | ⟨hd1, hd2⟩
                      · clear hdig
                        go_wp2_with fail
                        go_meet
                        exact ⟨qd, s3_exp L3.out.2.2 (by omega) l1 (by rw [HB4.out]; exact ⟨hd41, hd42⟩) HD.out.2.2.1 hqd HNO.out, HD.out.1, HD.out.2.1⟩
                      · clear hdig
                        go_wp2_with fail
                        go_meet
                        exact ⟨qd, s3_exp L3.out.2.2 (by omega) l1 (by rw [HB4.out]; exact ⟨hd41, hd42⟩) HD.out.2.2.1 hqd HNO.out, HD.out.1, HD.out.2.1⟩
                · rcases (show b4 < 48 ∨ (48 ≤ b4 ∧ 57 < b4) by omega) with hd1 | ⟨hd1, hd2⟩
                  all_goals
                    clear hdg4 hsg
                    go_wp2_with fail
                    go_meet
                    exact ⟨q3, L3.out.2.2, L3.out.1, L3.out.2.1⟩
            · go_wp2_with fail
              go_meet
              exact ⟨q3, L3.out.2.2, L3.out.1, L3.out.2.1⟩
          · rw [two_no (fun e => hs (.inl e)) (fun e => hs (.inr e))]
            clear hs
            go_wp2_with fail
            go_meet
            exact ⟨q3, L3.out.2.2, L3.out.1, L3.out.2.1⟩
        case rest =>
          obtain ⟨m, hs4, l4, g4⟩ := hcut
          clear v35 v33 v10 HC3
          have hwi := wsi_any p x b m _ l4
          have L4 := Lib.hid (And.intro l4 (And.intro g4 hs4))
          have hm := l4.hq
          clear l4 g4 hs4
          go_wp2_with fail
          cases hwv : wsi x.s m
          · rw [hwv] at hwi
            have HWV := Lib.hid hwv
            clear hwv
            refine hwi.mono ?_
            rintro e w6 ⟨rfl, b6⟩
            have l6 := L4.out.1.kept b6
            have L6 := Lib.hid (And.intro l6 (gb_trans L4.out.2.1 (gb_of_below _ b6)))
            obtain ⟨r10, r33, r35, r36, r37⟩ := l6.cells
            obtain ⟨cm, hcm⟩ : ∃ c, (decAt x.s m).1 = c := ⟨_, rfl⟩
            rw [hcm] at r35
            have HCM := Lib.hid hcm
            clear hwi b6 l6 hcm r10 r33 r36 r37
            by_cases hpc : cm = 37
            · have HPC := Lib.hid (decAt_small x.s m (HCM.out.trans hpc) (by omega) (by omega))
              subst hpc
              have hst := lex_step p x b m _ L6.out.1
              rw [HPC.out.2.2] at hst
              have HST := Lib.hid hst
              clear hst
              go_wp2_with fail
              refine HST.out.mono ?_
              rintro e w7 ⟨rfl, l7, g7⟩
              have H7 := Lib.hid (And.intro l7 (gb_trans L6.out.2 g7))
              clear l7 g7
              go_wp2_with fail
              go_ret
              exact ⟨m + 1, 34, x.un, rfl, ⟨m, L4.out.2.2, .inr (.inl ⟨rfl, HWV.out, HPC.out.1, by have := HPC.out.2.1; omega, rfl, rfl⟩)⟩, H7.out.1, H7.out.2⟩
            · have HNP : Hid (m < x.s.size → byteAt x.s m ≠ 37) := Lib.hid (fun hl e => hpc (by rw [← HCM.out, (cp_of hl (by omega)).1, e]; rfl))
              have t1 : (cm == 37) = false := beq_eq_false_iff_ne.2 hpc
              clear hpc
              go_wp2_with fail
              go_ret
              exact ⟨m, 30, x.un, rfl, ⟨m, L4.out.2.2, .inr (.inr ⟨rfl, HWV.out, HNP.out, rfl, rfl⟩)⟩, L6.out.1, L6.out.2⟩
          · rw [hwv] at hwi
            have HWV := Lib.hid hwv
            clear hwv
            refine hwi.mono ?_
            rintro e w6 ⟨rfl, b6⟩
            have l6 := L4.out.1.kept b6
            have L6 := Lib.hid (And.intro l6 (gb_trans L4.out.2.1 (gb_of_below _ b6)))
            obtain ⟨r10, r33, r35, r36, r37⟩ := l6.cells
            have f38 := l6.css.free 38
            obtain ⟨cn0, cn10, cn17, cn18, cn19, cn20, cn21, cn32, cn33, cn35, cn36, cn37, c38, c39, c40⟩ := l6.css.cells
            have hlz := l6.lt
            clear hwi b6 l6 r10 r33 r35 r36 cn0 cn10 cn17 cn18 cn19 cn20 cn21 cn32 cn33 cn35 cn36 cn37 c39 c40
            obtain ⟨ln, hln⟩ : ∃ ln, m - x.st = ln := ⟨_, rfl⟩
            rw [hln] at r37
            have HLN := Lib.hid hln
            have hlnb : ln ≤ 2097152 := by omega
            clear hln
            go_wp2_with fail
            have hcs := L6.out.1.css.set_un (ln % 65536)
            rw [← u16_nat ln] at hcs
            have l7 : Lex _ p {x with un := ln % 65536} b m := lex_of (x' := {x with un := ln % 65536}) L6.out.1 hcs rfl rfl (gb_set (gb_refl w6 (some p)) _ _ _) (Nat.le_refl _) hm
            refine (name_any p {x with un := ln % 65536} b m _ l7).mono ?_
            rintro e w8 ⟨v, q', rfl, hnt, l8, g8⟩
            have H8 := Lib.hid (And.intro hnt (And.intro l8 (gb_trans (gb_set L6.out.2 _ _ _) g8)))
            clear hnt l8 g8 l7 hcs
            go_wp2_with fail
            go_ret
            exact ⟨q', 26, ln % 65536, rfl, ⟨m, L4.out.2.2, .inl ⟨rfl, HWV.out, H8.out.1.2.2.2.2.2 (wsi_prog HWV.out), H8.out.1.2.1, by rw [HLN.out]⟩⟩, H8.out.2.1, H8.out.2.2⟩
end Go.Proofs.YtlbpplkanogkgaaDoor
