/-
  FnJoinWithPublicPathBaseAndDotSlashForms' walk at this seat. No statement of the seat is proved here.
-/
import Derived.Test.YtdbpgfjmkglkiaaFmtJw
namespace Go.Proofs.YtdbpgfjmkglkiaaFmt
open Go.RowKit Go.Extern.Stop Go.Stop Go.Extern
set_option linter.unusedVariables false

set_option maxHeartbeats 2000000 in
theorem law_any (F : Interp) (a c : ByteArray) (w : World) (hF : F.told.answers w.tape) (ha : a.size ≤ maxLen) (hc : c.size ≤ maxLen) :
    Calls Tryf.prog 3 #[.string a, .string c] w fun e w' => e = .returned (.bool true) ∧ Below w.heap.size w w' := by
  have HZ := Lib.hid (zb_any a c w ha hc)
  have HJ : ∀ (x y : ByteArray) (w' : World), Below w.heap.size w w' → x.size ≤ 2097152 → y.size ≤ 2097152 → Hid (Calls Tryf.prog 5 #[.string x, .string y] w' fun e w'' => Jd x y e ∧ Below w.heap.size w w'') := fun x y w' hb hx hy => Lib.hid (
    (join_any F x y w' (by rw [hb.tape]; exact hF) hx hy).mono fun e w'' ⟨h1, h2⟩ => ⟨h1, hb.trans (h2.mono hb.size)⟩)
  have HF := Lib.hid hF
  clear hF
  go_enter Tryf.func3, Tryf.ntmps3
  go_upto_if 8 with (go_at_call 4; refine HZ.out.mono ?_; rintro e w' ⟨hz, rfl⟩; rcases hz with ⟨rfl, hz⟩ | rfl)
  rotate_left
  · go_wp2_with fail
    go_ret
    exact ⟨rfl, Below.refl _ _⟩
  have ha' : a.size ≤ 1048576 := by omega
  have hc' : c.size ≤ 1048576 := by omega
  go_upto_region 9 with (first
    | (go_at_call 5; refine (HJ ⟨#[]⟩ c w (Below.refl _ _) (by decide) (by omega)).out.mono ?_; rintro e w1 ⟨⟨s1, rfl, h1⟩, b1⟩)
    | (go_at_call 5; refine (HJ ⟨#[46]⟩ c w1 b1 (by decide) (by omega)).out.mono ?_; rintro e w2 ⟨⟨s2, rfl, h2⟩, b2⟩; have e12 := jd_eq h1 h2 (join_nil _); have H2 := Lib.hid b2; clear h1 h2 b1 b2)
    | (go_at_call 5; refine (HJ ⟨#[46]⟩ c w2 H2.out (by decide) (by omega)).out.mono ?_; rintro e w3 ⟨⟨s3, rfl, h3⟩, b3⟩)
    | (go_at_call 5; refine (HJ ⟨#[46, 47]⟩ c w3 b3 (by decide) (by omega)).out.mono ?_; rintro e w4 ⟨⟨s4, rfl, h4⟩, b4⟩; have e34 := jd_eq h3 h4 (join_dot _); have H4 := Lib.hid b4; clear h3 h4 b3 b4))
  obtain ⟨m, hm⟩ : ∃ m, a.size - 1 = m := ⟨_, rfl⟩
  have hl : a.data.toList.length = a.size := by simp
  have HR : ∀ (wz : World), Below w.heap.size w wz → Hid (Calls Tryf.prog 5 #[.string a, .string ({ data := #[46, 47] } ++ c)] wz fun e w'' => Jd a ({ data := #[46, 47] } ++ c) e ∧ Below w.heap.size w w'') := fun wz hb => HJ a _ wz hb (by omega) (by rw [ByteArray.size_append]; exact Nat.le_trans (Nat.add_le_add (show _ ≤ 4 by decide) hc') (by omega))
  have HR2 : ∀ (wz : World), Below w.heap.size w wz → Hid (Calls Tryf.prog 5 #[.string a, .string ({ data := #[46, 47, 46, 47] } ++ c)] wz fun e w'' => Jd a ({ data := #[46, 47, 46, 47] } ++ c) e ∧ Below w.heap.size w w'') := fun wz hb => HJ a _ wz hb (by omega) (by rw [ByteArray.size_append]; exact Nat.le_trans (Nat.add_le_add (show _ ≤ 4 by decide) hc') (by omega))
  have hrel : joined a.data.toList (({ data := #[46, 47] } : ByteArray) ++ c).data.toList = joined a.data.toList (({ data := #[46, 47, 46, 47] } : ByteArray) ++ c).data.toList := by
    rw [ByteArray.data_append, ByteArray.data_append]
    simp only [Array.toList_append, List.cons_append, List.nil_append]
    exact join_rel _ _
  have HREL := Lib.hid hrel
  clear hrel
  rcases (show a.size = 0 ∨ 0 < a.size by omega) with h0 | h0
  · have ea : a.data.toList = [] := List.eq_nil_of_length_eq_zero (by omega)
    have et : a.toList.isEmpty = true := by rw [toList_eq, ea]; rfl
    clear ea hl
    go_wp2_with (first
      | (go_at_call 5; refine (HR w4 H4.out).out.mono ?_; rintro e w5 ⟨⟨s5, rfl, h5⟩, b5⟩)
      | (go_at_call 5; refine (HR2 w5 b5).out.mono ?_; rintro e w6 ⟨⟨s6, rfl, h6⟩, b6⟩; have e56 := jd_eq h5 h6 HREL.out; have H6 := Lib.hid b6; clear h5 h6 b5 b6))
    go_ret
    exact ⟨rfl, H6.out⟩
  · have et : a.toList.isEmpty = false := by
      rw [toList_eq]
      cases e : a.data.toList with
      | nil => rw [e] at hl; simp at hl; omega
      | cons _ _ => rfl
    have hI : (a.size : Int) - 1 = (m : Int) := by omega
    have hm1 : m < a.size := by omega
    obtain ⟨b, hb⟩ : ∃ b : Nat, (a[m]'hm1).toNat = b := ⟨_, rfl⟩
    have hlast : a.data.toList.getLast? = some (a[m]'hm1) := by
      rw [List.getLast?_eq_getElem?, hl, hm]
      simp [hm1]
      rfl
    have HLA := Lib.hid (And.intro hl hlast)
    clear hl hlast
    by_cases h47 : b = 47
    · subst h47
      go_wp2_with (first
        | (go_at_call 5; refine (HR w4 H4.out).out.mono ?_; rintro e w5 ⟨⟨s5, rfl, h5⟩, b5⟩)
        | (go_at_call 5; refine (HR2 w5 b5).out.mono ?_; rintro e w6 ⟨⟨s6, rfl, h6⟩, b6⟩; have e56 := jd_eq h5 h6 HREL.out; have H6 := Lib.hid b6; clear h5 h6 b5 b6))
      go_ret
      exact ⟨rfl, H6.out⟩
    · have h48 : ((b : Int) == 47) = false := beq_eq_false_iff_ne.2 (by omega)
      have hns : a.data.toList ≠ [] := by intro c; rw [c] at HLA; have := HLA.out.2; cases this
      have hnl : a.data.toList.getLast? ≠ some 47 := by
        rw [HLA.out.2]
        intro c
        injection c with c
        rw [c] at hb
        exact h47 hb.symm
      have hj : joined a.data.toList c.data.toList = joined (a ++ ({ data := #[47] } : ByteArray)).data.toList c.data.toList := by
        rw [ByteArray.data_append]
        simp only [Array.toList_append]
        exact join_slash _ _ hns hnl
      have HJJ := Lib.hid hj
      clear hj hns hnl h47
      have HA1 : Hid (Calls Tryf.prog 5 #[.string a, .string c] w4 fun e w'' => Jd a c e ∧ Below w.heap.size w w'') := HJ a c w4 H4.out (by omega) (by omega)
      have HA2 : ∀ (wz : World), Below w.heap.size w wz → Hid (Calls Tryf.prog 5 #[.string (a ++ { data := #[47] }), .string c] wz fun e w'' => Jd (a ++ { data := #[47] }) c e ∧ Below w.heap.size w w'') := fun wz hb => HJ _ c wz hb (by rw [ByteArray.size_append]; exact Nat.le_trans (Nat.add_le_add ha' (show _ ≤ 4 by decide)) (by omega)) (by omega)
      go_wp2_with (first
        | (go_at_call 5; refine HA1.out.mono ?_; rintro e w5 ⟨⟨s5, rfl, h5⟩, b5⟩)
        | (go_at_call 5; refine (HA2 w5 b5).out.mono ?_; rintro e w6 ⟨⟨s6, rfl, h6⟩, b6⟩; have e56 := jd_eq h5 h6 HJJ.out; have H6 := Lib.hid b6; clear h5 h6 b5 b6)
        | (go_at_call 5; refine (HR w6 H6.out).out.mono ?_; rintro e w7 ⟨⟨s7, rfl, h7⟩, b7⟩)
        | (go_at_call 5; refine (HR2 w7 b7).out.mono ?_; rintro e w8 ⟨⟨s8, rfl, h8⟩, b8⟩; have e78 := jd_eq h7 h8 HREL.out; have H8 := Lib.hid b8; clear h7 h8 b7 b8))
      go_ret
      exact ⟨rfl, H8.out⟩
end Go.Proofs.YtdbpgfjmkglkiaaFmt
