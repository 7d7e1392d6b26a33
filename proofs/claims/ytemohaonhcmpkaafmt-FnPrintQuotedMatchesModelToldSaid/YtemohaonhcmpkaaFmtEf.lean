/-
  strings.EqualFold of five bytes, one of them no ASCII, against "style": false. No statement of the seat is proved here.
-/
import Derived.Test.YtemohaonhcmpkaaFmtSf
import Derived.Test.YtemohaonhcmpkaaFmtQm
import Derived.Test.YtemohaonhcmpkaaFmtScj
import Derived.Test.YtemohaonhcmpkaaFmtIter
import Derived.Laws.BitsAllLaws
namespace Go.Proofs.YtemohaonhcmpkaaFmt
open Go.RowKit Go.Lib
set_option linter.unusedVariables false
set_option linter.unusedSimpArgs false

theorem sty_cases (k : Nat) : sty k = 115 ∨ sty k = 116 ∨ sty k = 121 ∨ sty k = 108 ∨ sty k = 101 := by
  unfold sty
  repeat' split
  all_goals simp
/-- what is left of "style" from j on -/
def Tl (u : ByteArray) (j : Nat) : Prop := u.size + j = 5 ∧ ∀ k, k < u.size → byteAt u k = sty (j + k)
theorem Tl.ext {u : ByteArray} {j : Nat} (h : Tl u j) (i : Nat) (hi : i ≤ u.size) : Tl (u.extract i u.size) (j + i) := by
  have hz : (u.extract i u.size).size = u.size - i := by simp
  refine ⟨by have := h.1; omega, fun k hk => ?_⟩
  rw [hz] at hk
  unfold byteAt
  rw [ext_get!, show j + i + k = j + (i + k) by omega]
  exact h.2 (i + k) (by omega)
theorem wide (s : ByteArray) (pos : Nat) (h : pos < s.size) (hb : 128 ≤ byteAt s pos) (hc : (Utf8.decode s pos).1 = 383) : 2 ≤ (Utf8.decode s pos).2 := by
  rw [Lib.decode_at] at hc ⊢
  have e0 : (s.get! pos).toNat = byteAt s pos := rfl
  rw [e0] at hc ⊢
  generalize byteAt s pos = b0 at *
  generalize (s.get! (pos + 1)).toNat = b1 at *
  generalize (s.get! (pos + 2)).toNat = b2 at *
  generalize (s.get! (pos + 3)).toNat = b3 at *
  generalize s.size - pos = n at *
  unfold Lib.decodeN at *
  revert hc
  repeat' split
  all_goals (intro h; simp at h ⊢; try omega)
theorem gb_new0 {w w' : World} {b : Nat} (h : w.grownBy w' (some b)) (hb : w.heap.size ≤ b) : w.grownBy w' none :=
  ⟨h.os, h.tape, h.output, h.size, fun i hi _ => h.block i hi (fun e => by have := Option.some.inj e; omega)⟩
theorem gb_none0 {w w' : World} {r : Option Nat} (h : w.grownBy w' none) : w.grownBy w' r := ⟨h.os, h.tape, h.output, h.size, fun i hi _ => h.block i hi (by simp)⟩
theorem below_of0 {w w' : World} (h : w.grownBy w' none) : Below w.heap.size w w' := ⟨h.os, h.tape, h.output, h.size, fun i hi => h.block i hi (by simp)⟩
theorem fa115 : fa 115 = 383 := by kernel_rfl
theorem fa83 : fa 83 = 115 := by kernel_rfl
theorem fa116 : fa 116 = 84 := by kernel_rfl
theorem fa84 : fa 84 = 116 := by kernel_rfl
theorem fa121 : fa 121 = 89 := by kernel_rfl
theorem fa89 : fa 89 = 121 := by kernel_rfl
theorem fa108 : fa 108 = 76 := by kernel_rfl
theorem fa76 : fa 76 = 108 := by kernel_rfl
theorem fa101 : fa 101 = 69 := by kernel_rfl
theorem fa69 : fa 69 = 101 := by kernel_rfl
theorem noGoto_ret {Q : Exit → Act → World → Prop} {a : Act} {w : World} (h : Q .ret a w) : Exit.noGoto Q .ret a w := h
def EfE (w : World) (e : Ending) (w' : World) : Prop := e = .returned (.bool false) ∧ w.grownBy w' none
set_option maxHeartbeats 8000000 in
set_option maxRecDepth 100000 in
theorem ef_high (s t : ByteArray) (hs : s.size = 5) (ht : Tl t 0) (i0 : Nat) (hi0 : i0 < 5) (hb : 128 ≤ byteAt s i0) (hlo : ∀ k, k < i0 → byteAt s k < 128) (w : World) {R o cap : Nat} (hF : Fold w R o cap) (hR : R < w.heap.size) (h3 : 3 < w.heap.size) :
    Calls Tryf.prog 19 #[.string s, .string t] w (EfE w) := by
  have hts : t.size = 5 := by have := ht.1; omega
  have H := Lib.hid (And.intro hb (And.intro hlo (And.intro ht hF)))
  have HR := Lib.hid (And.intro hR h3)
  clear hb hlo ht hF hR h3
  go_enter Tryf.func19, Tryf.ntmps19
  go_wp2_with fail
  refine wp_scope_to 0 rfl ?_
  go_wp2_with fail
  go_loopg [5] 5 (fun g x wx => wx = w ∧ ∃ i : Nat, x = .int .i64 (i : Int) ∧ i ≤ i0 ∧ 5 - i ≤ g)
  case atStart => exact ⟨rfl, 0, rfl, by omega, by omega⟩
  case round =>
    obtain ⟨hw, i, rfl, hi, hg⟩ := hrel
    obtain rfl := hw.symm
    have his : i < s.size := by omega
    have hit : i < t.size := by omega
    have hx := byteAt_get s i his
    have hy := byteAt_get t i hit
    have hyr : byteAt t i < 128 ∧ 90 < byteAt t i := by
      rw [H.out.2.2.1.2 i hit]
      rcases sty_cases (0 + i) with h | h | h | h | h <;> rw [h] <;> omega
    obtain ⟨n, hn⟩ : ∃ n, byteAt s i = n := ⟨_, rfl⟩
    obtain ⟨m, hm⟩ : ∃ m, byteAt t i = m := ⟨_, rfl⟩
    have hn2 : n < 256 := by rw [← hn]; exact byteAt_lt s i
    rw [hn] at hx
    rw [hm] at hy hyr
    have hor : bits .or .u8 (n : Int) (m : Int) = ((n ||| m : Nat) : Int) := u8_or_nat _ _ (by omega) (by omega)
    rcases (show i < i0 ∨ i = i0 by omega) with hlt | heq
    · have hn128 : n < 128 := by rw [← hn]; exact H.out.2.1 i hlt
      have hor128 : decide ((128 : Int) ≤ ((n ||| m : Nat) : Int)) = false := by have := Nat.or_lt_two_pow (n := 7) hn128 hyr.1; simp; omega
      have hor129 : decide (128 ≤ (n ||| m)) = false := by have := Nat.or_lt_two_pow (n := 7) hn128 hyr.1; simp; omega
      have HN := Lib.hid (And.intro hn hm)
      clear hn hm
      go_wp2_with fail
      all_goals first
        | (go_roundg (gk - 1)
           case measure => omega
           case rel => exact ⟨rfl, i + 1, by go_num, by omega, by omega⟩)
        | (refine jump_ret ?_
           go_ret
           exact ⟨rfl, gb_refl _ _⟩)
    · subst heq
      have hge : 128 ≤ (n ||| m) := by
        have h1 : 128 ≤ n := by rw [← hn]; exact H.out.1
        exact Nat.le_trans h1 Nat.left_le_or
      have HN := Lib.hid (And.intro hn hm)
      have d1 : decide ((128 : Int) ≤ ((n ||| m : Nat) : Int)) = true := by simp; omega
      have d2 : decide (128 ≤ (n ||| m)) = true := by simp; omega
      clear hn hm hge
      go_wp2_with fail
      go_step3
      refine ⟨rfl, ?_⟩
      clear d1 d2 hor hx hy hn2
      go_wp2_with fail
      have HZ : Hid ((s.extract i 5).size = 5 - i ∧ 128 ≤ byteAt (s.extract i 5) 0 ∧ Tl (t.extract i 5) i) := Lib.hid (by
        refine ⟨by simp; omega, ?_, ?_⟩
        · have e : byteAt (s.extract i 5) 0 = byteAt s i := by
            unfold byteAt
            have := ext_get! s i 0
            rw [hs] at this
            rw [this]; rfl
          rw [e]; exact H.out.1
        · have := H.out.2.2.1.ext i (by omega)
          rw [hts, Nat.zero_add] at this
          exact this)
      have HIT : Hid (It (w.iter (s.extract i 5) 0) w.heap.size (s.extract i 5) 0 ∧ w.grownBy (w.iter (s.extract i 5) 0) none) := Lib.hid ⟨It.new w _, gb_alloc (gb_refl _ _) _⟩
      obtain ⟨s2, hs2⟩ : ∃ s2, s.extract i 5 = s2 := ⟨_, rfl⟩
      obtain ⟨t2, ht2⟩ : ∃ t2, t.extract i 5 = t2 := ⟨_, rfl⟩
      rw [hs2] at HZ HIT ⊢
      rw [ht2] at HZ ⊢
      obtain ⟨r, hr⟩ : ∃ r, w.heap.size = r := ⟨_, rfl⟩
      rw [hr] at HIT
      try rw [hr]
      have hz2 : s2.size = 5 - i := HZ.out.1
      obtain ⟨m2, hm2⟩ : ∃ m2, s2.size = m2 := ⟨_, rfl⟩
      rw [hm2] at hz2
      have HM2 := Lib.hid hm2
      have HRR := Lib.hid hr
      clear hs2 ht2 hr hm2 hs hts his hit hyr
      generalize w.iter s2 0 = w0 at HIT ⊢
      go_loopg [1] 5 (fun g x wx => ∃ (j pos : Nat) (u : ByteArray), x = .string u ∧ Hid (Tl u j ∧ It wx r s2 pos ∧ w.grownBy wx none) ∧ pos ≤ m2 ∧ m2 - pos ≤ g ∧ ((pos = 0 ∧ j = i) ∨ j + 1 ≤ i + pos))
      case atStart => exact ⟨i, 0, t2, rfl, Lib.hid ⟨HZ.out.2.2, HIT.out.1, HIT.out.2⟩, by omega, by omega, .inl ⟨rfl, rfl⟩⟩
      case round =>
        obtain ⟨j, pos, u, rfl, HU, hpos, hgk, hway⟩ := hrel
        obtain ⟨wz, rfl⟩ : ∃ wz : World, wz = wr := ⟨_, rfl⟩
        obtain ⟨gO, rfl⟩ : ∃ gO, gO = gk := ⟨_, rfl⟩
        obtain ⟨ku, hku⟩ : ∃ ku, u.size = ku := ⟨_, rfl⟩
        have hkj : ku + j = 5 := by rw [← hku]; exact HU.out.1.1
        rcases (show m2 = pos ∨ pos < m2 by omega) with he | hlt
        · have hk0 : ((ku : Int) == 0) = false := by simp; omega
          have hk1 : decide ((ku : Int) = 0) = false := by simp; omega
          go_wp2_with (refine wpList_next_end rfl _ rfl r s2 pos rfl HU.out.2.1 (by rw [HM2.out]; omega) ?_)
          refine noGoto_ret ?_
          go_ret
          exact ⟨rfl, HU.out.2.2⟩
        · have HLT : Hid (pos < s2.size) := Lib.hid (by rw [HM2.out]; exact hlt)
          go_upto_region 19 with (refine wpList_next_at rfl _ rfl r s2 pos rfl HU.out.2.1 HLT.out ?_; intro w2 hit2 hg2; have H2 := Lib.hid (And.intro hit2 hg2); clear hit2 hg2)
          have HG2 : Hid (w.grownBy w2 none) := Lib.hid (gb_new0 (gb_trans (gb_none0 HU.out.2.2) H2.out.2) (Nat.le_of_eq HRR.out))
          have HCW : Hid (1 ≤ (Utf8.decode s2 pos).2 ∧ pos + (Utf8.decode s2 pos).2 ≤ m2 ∧ ((Utf8.decode s2 pos).1 = 383 → pos = 0 → 2 ≤ (Utf8.decode s2 pos).2) ∧ (pos = 0 → 128 ≤ (Utf8.decode s2 pos).1)) := Lib.hid (by
            have h := width_le s2 pos HLT.out
            refine ⟨h.1, by rw [← HM2.out]; exact h.2, fun h1 h2 => ?_, fun h2 => ?_⟩
            · subst h2; exact wide s2 0 HLT.out HZ.out.2.1 h1
            · subst h2
              have hg := byteAt_get s2 0 HLT.out
              exact (decode_high s2 0 HLT.out (by rw [hg]; exact HZ.out.2.1)).1)
          have HF2 : Hid (Fold w2 R o cap) := Lib.hid (H.out.2.2.2.below (below_of0 HG2.out) HR.out.2 HR.out.1)
          have HIT2 := Lib.hid H2.out.1
          clear H2
          generalize (Utf8.decode s2 pos).1 = c at HCW ⊢
          generalize (Utf8.decode s2 pos).2 = W at HCW HIT2
          rcases (show ku = 0 ∨ 0 < ku by omega) with hk0 | hk0
          · subst hk0
            go_wp2_with fail
            refine noGoto_ret ?_
            go_ret
            exact ⟨rfl, HG2.out⟩
          have hk1 : ((ku : Int) == 0) = false := by simp; omega
          have hk2 : decide ((ku : Int) = 0) = false := by simp; omega
          have hus : 0 < u.size := by omega
          obtain ⟨x, hx⟩ : ∃ x, u[0]'hus = x := ⟨_, rfl⟩
          have hx0 : u.data.toList[0]? = some x := by rw [← hx]; exact Lib.data_getElem? u 0 hus
          have hxy : x.toNat = sty j := by rw [← hx, byteAt_get u 0 hus]; exact HU.out.1.2 0 hus
          have hyv := sty_cases j
          rw [← hxy] at hyv
          have HDR := Lib.hid (Tryf.utf8_DecodeRuneInString_ascii u x w2 hx0 (by omega))
          have HTL : Hid (Tl (u.extract 1 ku) (j + 1)) := Lib.hid (by have := HU.out.1.ext 1 (by omega); rw [hku] at this; exact this)
          generalize x.toNat = y at hyv HDR
          clear hx hx0 hxy hus
          have HNX : Hid ((c ≠ 383 → pos ≠ 0) → Tl (u.extract 1 ku) (j + 1) ∧ j + 1 + 1 ≤ i + (pos + W) ∧ pos + W ≤ m2 ∧ 1 ≤ W) := Lib.hid (fun hc => by
            obtain ⟨q1, q2, q3, q4⟩ := HCW.out
            refine ⟨HTL.out, ?_, q2, q1⟩
            by_cases hp : pos = 0
            · have : c = 383 := by
                by_cases h : c = 383
                · exact h
                · exact absurd hp (hc h)
              have := q3 this hp
              omega
            · omega)
          by_cases hc128 : c < 128
          · have hp0 : pos ≠ 0 := fun h => by have := HCW.out.2.2.2 h; omega
            have HNY := Lib.hid (HNX.out (fun _ => hp0))
            rcases hyv with rfl | rfl | rfl | rfl | rfl
            all_goals
              go_wp2_with (go_at_call 17; refine HDR.out.mono ?_; rintro e w3 ⟨rfl, h3⟩; obtain rfl := h3.symm)
              all_goals first
                | (go_roundg (gO - 1)
                   case measure => omega
                   case rel =>
                     obtain ⟨q1, q2, q3, q4⟩ := HNY.out
                     exact ⟨j + 1, pos + W, _, rfl, Lib.hid ⟨q1, HIT2.out, HG2.out⟩, q3, by omega, .inr q2⟩)
                | ((try refine noGoto_ret ?_)
                   go_ret
                   exact ⟨rfl, HG2.out⟩)
          · have hbig : 128 ≤ c := by omega
            clear hc128
            rcases hyv with rfl | rfl | rfl | rfl | rfl
            · rcases (show c < 383 ∨ c = 383 ∨ 383 < c by omega) with hc | hc | hc
              · have HC := Lib.hid hc
                have S1 := Lib.hid (sf_asc 115 (by omega) w2 HF2.out)
                rw [fa115] at S1
                have g1 : ((115 : Int) == (c : Int)) = false := by simp; omega
                have g2 : decide ((115 : Int) < (c : Int)) = true := by simp; omega
                have g3 : decide ((c : Int) < 128) = false := by simp; omega
                have g4 : decide ((383 : Int) < (c : Int)) = false := by simp; omega
                have g5 : ((383 : Int) == (c : Int)) = false := by simp; omega
                clear hbig hc
                go_wp2_with (first
                  | (go_at_call 17; refine HDR.out.mono ?_; rintro e w3 ⟨rfl, h3⟩; obtain rfl := h3.symm)
                  | (go_at_call 22; refine S1.out.mono ?_; rintro e w3 ⟨rfl, h3⟩; obtain rfl := h3.symm))
                go_loopg [13] 1 (fun g x wx => wx = w2 ∧ x = .int .i32 383)
                case atStart => exact ⟨rfl, rfl⟩
                case round =>
                  obtain ⟨hw, rfl⟩ := hrel
                  obtain rfl := hw.symm
                  go_wp2_with fail
                  (try refine noGoto_ret ?_)
                  go_ret
                  exact ⟨rfl, HG2.out⟩
              · subst hc
                have S1 := Lib.hid (sf_asc 115 (by omega) w2 HF2.out)
                rw [fa115] at S1
                clear hbig
                go_wp2_with (first
                  | (go_at_call 17; refine HDR.out.mono ?_; rintro e w3 ⟨rfl, h3⟩; obtain rfl := h3.symm)
                  | (go_at_call 22; refine S1.out.mono ?_; rintro e w3 ⟨rfl, h3⟩; obtain rfl := h3.symm))
                go_loopg [13] 1 (fun g x wx => wx = w2 ∧ x = .int .i32 383)
                case atStart => exact ⟨rfl, rfl⟩
                case round =>
                  obtain ⟨hw, rfl⟩ := hrel
                  obtain rfl := hw.symm
                  have HNY := Lib.hid (HNX.out (fun h => absurd rfl h))
                  go_wp2_with fail
                  go_roundg (gO - 1)
                  case measure => obtain ⟨q1, q2, q3, q4⟩ := HNY.out; omega
                  case rel =>
                    obtain ⟨q1, q2, q3, q4⟩ := HNY.out
                    exact ⟨j + 1, pos + W, _, rfl, Lib.hid ⟨q1, HIT2.out, HG2.out⟩, q3, by omega, .inr q2⟩
              · have S2 := Lib.hid (sf_383 w2 HF2.out (Nat.lt_of_lt_of_le HR.out.1 HG2.out.size))
                have S3 := Lib.hid (sf_asc 83 (by omega) w2 HF2.out)
                rw [fa83] at S3
                have S1 := Lib.hid (sf_asc 115 (by omega) w2 HF2.out)
                rw [fa115] at S1
                have g1 : ((115 : Int) == (c : Int)) = false := by simp; omega
                have g2 : decide ((115 : Int) < (c : Int)) = true := by simp; omega
                have g3 : decide ((c : Int) < 128) = false := by simp; omega
                have g4 : decide ((383 : Int) < (c : Int)) = true := by simp; omega
                have g5 : decide ((83 : Int) < (c : Int)) = true := by simp; omega
                clear hbig hc
                go_wp2_with (first
                  | (go_at_call 17; refine HDR.out.mono ?_; rintro e w3 ⟨rfl, h3⟩; obtain rfl := h3.symm)
                  | (go_at_call 22; refine S1.out.mono ?_; rintro e w3 ⟨rfl, h3⟩; obtain rfl := h3.symm))
                go_loopg [13] 2 (fun g x wx => wx = w2 ∧ ((x = .int .i32 383 ∧ 2 ≤ g) ∨ (x = .int .i32 83 ∧ 1 ≤ g) ∨ x = .int .i32 115))
                case atStart => exact ⟨rfl, .inl ⟨rfl, Nat.le_refl _⟩⟩
                case round =>
                  obtain ⟨hw, hrel⟩ := hrel
                  obtain rfl := hw.symm
                  rcases hrel with ⟨rfl, hk⟩ | ⟨rfl, hk⟩ | rfl
                  · go_wp2_with (go_at_call 22; refine S2.out.mono ?_; rintro e w3 ⟨rfl, h3⟩; obtain rfl := h3.symm)
                    go_roundg (gk - 1)
                    case measure => omega
                    case rel => exact ⟨rfl, .inr (.inl ⟨rfl, by omega⟩)⟩
                  · go_wp2_with (go_at_call 22; refine S3.out.mono ?_; rintro e w3 ⟨rfl, h3⟩; obtain rfl := h3.symm)
                    go_roundg (gk - 1)
                    case measure => omega
                    case rel => exact ⟨rfl, .inr (.inr rfl)⟩
                  · go_wp2_with fail
                    (try refine noGoto_ret ?_)
                    go_ret
                    exact ⟨rfl, HG2.out⟩
            · have S1 := Lib.hid (sf_asc 116 (by omega) w2 HF2.out)
              have S2 := Lib.hid (sf_asc 84 (by omega) w2 HF2.out)
              rw [fa116] at S1
              rw [fa84] at S2
              have g1 : ((116 : Int) == (c : Int)) = false := by simp; omega
              have g2 : decide ((116 : Int) < (c : Int)) = true := by simp; omega
              have g3 : decide ((c : Int) < 128) = false := by simp; omega
              have g4 : decide ((84 : Int) < (c : Int)) = true := by simp; omega
              clear hbig
              go_wp2_with (first
                | (go_at_call 17; refine HDR.out.mono ?_; rintro e w3 ⟨rfl, h3⟩; obtain rfl := h3.symm)
                | (go_at_call 22; refine S1.out.mono ?_; rintro e w3 ⟨rfl, h3⟩; obtain rfl := h3.symm))
              go_loopg [13] 1 (fun g x wx => wx = w2 ∧ ((x = .int .i32 84 ∧ 1 ≤ g) ∨ x = .int .i32 116))
              case atStart => exact ⟨rfl, .inl ⟨rfl, Nat.le_refl _⟩⟩
              case round =>
                obtain ⟨hw, hrel⟩ := hrel
                obtain rfl := hw.symm
                rcases hrel with ⟨rfl, hk⟩ | rfl
                · go_wp2_with (go_at_call 22; refine S2.out.mono ?_; rintro e w3 ⟨rfl, h3⟩; obtain rfl := h3.symm)
                  go_roundg (gk - 1)
                  case measure => omega
                  case rel => exact ⟨rfl, .inr rfl⟩
                · go_wp2_with fail
                  (try refine noGoto_ret ?_)
                  go_ret
                  exact ⟨rfl, HG2.out⟩
            · have S1 := Lib.hid (sf_asc 121 (by omega) w2 HF2.out)
              have S2 := Lib.hid (sf_asc 89 (by omega) w2 HF2.out)
              rw [fa121] at S1
              rw [fa89] at S2
              have g1 : ((121 : Int) == (c : Int)) = false := by simp; omega
              have g2 : decide ((121 : Int) < (c : Int)) = true := by simp; omega
              have g3 : decide ((c : Int) < 128) = false := by simp; omega
              have g4 : decide ((89 : Int) < (c : Int)) = true := by simp; omega
              clear hbig
              go_wp2_with (first
                | (go_at_call 17; refine HDR.out.mono ?_; rintro e w3 ⟨rfl, h3⟩; obtain rfl := h3.symm)
                | (go_at_call 22; refine S1.out.mono ?_; rintro e w3 ⟨rfl, h3⟩; obtain rfl := h3.symm))
              go_loopg [13] 1 (fun g x wx => wx = w2 ∧ ((x = .int .i32 89 ∧ 1 ≤ g) ∨ x = .int .i32 121))
              case atStart => exact ⟨rfl, .inl ⟨rfl, Nat.le_refl _⟩⟩
              case round =>
                obtain ⟨hw, hrel⟩ := hrel
                obtain rfl := hw.symm
                rcases hrel with ⟨rfl, hk⟩ | rfl
                · go_wp2_with (go_at_call 22; refine S2.out.mono ?_; rintro e w3 ⟨rfl, h3⟩; obtain rfl := h3.symm)
                  go_roundg (gk - 1)
                  case measure => omega
                  case rel => exact ⟨rfl, .inr rfl⟩
                · go_wp2_with fail
                  (try refine noGoto_ret ?_)
                  go_ret
                  exact ⟨rfl, HG2.out⟩
            · have S1 := Lib.hid (sf_asc 108 (by omega) w2 HF2.out)
              have S2 := Lib.hid (sf_asc 76 (by omega) w2 HF2.out)
              rw [fa108] at S1
              rw [fa76] at S2
              have g1 : ((108 : Int) == (c : Int)) = false := by simp; omega
              have g2 : decide ((108 : Int) < (c : Int)) = true := by simp; omega
              have g3 : decide ((c : Int) < 128) = false := by simp; omega
              have g4 : decide ((76 : Int) < (c : Int)) = true := by simp; omega
              clear hbig
              go_wp2_with (first
                | (go_at_call 17; refine HDR.out.mono ?_; rintro e w3 ⟨rfl, h3⟩; obtain rfl := h3.symm)
                | (go_at_call 22; refine S1.out.mono ?_; rintro e w3 ⟨rfl, h3⟩; obtain rfl := h3.symm))
              go_loopg [13] 1 (fun g x wx => wx = w2 ∧ ((x = .int .i32 76 ∧ 1 ≤ g) ∨ x = .int .i32 108))
              case atStart => exact ⟨rfl, .inl ⟨rfl, Nat.le_refl _⟩⟩
              case round =>
                obtain ⟨hw, hrel⟩ := hrel
                obtain rfl := hw.symm
                rcases hrel with ⟨rfl, hk⟩ | rfl
                · go_wp2_with (go_at_call 22; refine S2.out.mono ?_; rintro e w3 ⟨rfl, h3⟩; obtain rfl := h3.symm)
                  go_roundg (gk - 1)
                  case measure => omega
                  case rel => exact ⟨rfl, .inr rfl⟩
                · go_wp2_with fail
                  (try refine noGoto_ret ?_)
                  go_ret
                  exact ⟨rfl, HG2.out⟩
            · have S1 := Lib.hid (sf_asc 101 (by omega) w2 HF2.out)
              have S2 := Lib.hid (sf_asc 69 (by omega) w2 HF2.out)
              rw [fa101] at S1
              rw [fa69] at S2
              have g1 : ((101 : Int) == (c : Int)) = false := by simp; omega
              have g2 : decide ((101 : Int) < (c : Int)) = true := by simp; omega
              have g3 : decide ((c : Int) < 128) = false := by simp; omega
              have g4 : decide ((69 : Int) < (c : Int)) = true := by simp; omega
              clear hbig
              go_wp2_with (first
                | (go_at_call 17; refine HDR.out.mono ?_; rintro e w3 ⟨rfl, h3⟩; obtain rfl := h3.symm)
                | (go_at_call 22; refine S1.out.mono ?_; rintro e w3 ⟨rfl, h3⟩; obtain rfl := h3.symm))
              go_loopg [13] 1 (fun g x wx => wx = w2 ∧ ((x = .int .i32 69 ∧ 1 ≤ g) ∨ x = .int .i32 101))
              case atStart => exact ⟨rfl, .inl ⟨rfl, Nat.le_refl _⟩⟩
              case round =>
                obtain ⟨hw, hrel⟩ := hrel
                obtain rfl := hw.symm
                rcases hrel with ⟨rfl, hk⟩ | rfl
                · go_wp2_with (go_at_call 22; refine S2.out.mono ?_; rintro e w3 ⟨rfl, h3⟩; obtain rfl := h3.symm)
                  go_roundg (gk - 1)
                  case measure => omega
                  case rel => exact ⟨rfl, .inr rfl⟩
                · go_wp2_with fail
                  (try refine noGoto_ret ?_)
                  go_ret
                  exact ⟨rfl, HG2.out⟩
end Go.Proofs.YtemohaonhcmpkaaFmt
