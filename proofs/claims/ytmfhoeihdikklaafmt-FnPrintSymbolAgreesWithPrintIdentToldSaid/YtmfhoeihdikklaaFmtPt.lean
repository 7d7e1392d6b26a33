/-
  printIdent's slow path. No statement of the seat is proved here.
-/
import Derived.Test.YtmfhoeihdikklaaFmtPi
namespace Go.Proofs.YtmfhoeihdikklaaFmt
open Go.RowKit
set_option linter.unusedVariables false
set_option linter.unusedSimpArgs false

def GI (t : ByteArray) (b : Bool) (B p : Nat) (l : Int) (m a : Bool) (lnv : Option Nat) (syv : Option Addr × Nat) (zs : List Int) (s e : Int) (w : World) (r : Nat) (k : Nat) (wr : World) : Prop :=
  ∃ (i : Nat) (ys : List Int), i ≤ t.size ∧ t.size - i ≤ k ∧ Gi t b B p l m a lnv syv zs s e w r k i ys wr
set_option maxHeartbeats 4000000 in
set_option maxRecDepth 100000 in
theorem pi_slow1 (B p : Nat) (l : Int) (m a : Bool) (lnv : Option Nat) (syv : Option Addr × Nat) (zs : List Int) (s e : Int) (t : ByteArray) (ws : Int) (w : World) (hp : Pr w B p l m a lnv syv zs s e) (hB : B ≤ w.heap.size) (ht : t.size ≤ 1048576) (hl : zs.length + 8388608 ≤ 140737488355328)
    (hW : Calls Tryf.prog 25 #[.string t] w fun e w' => e = .returned (.bool true) ∧ Below w.heap.size w w') (hh : NoHex t a true) (j : Nat) (hj : j < t.size) (hj0 : ∀ i, i < j → okAt t i = true) (hj1 : okAt t j = false) :
    Calls Tryf.prog 21 #[.pointer (some ⟨p, 0, none⟩), .string t, .int .u8 0, .int .u8 ws] w fun en w' => en = .returned (.tuple #[]) ∧ Pr w' B p l m a lnv syv (zs ++ slow t true t.size 0) s e ∧ Below B w w' ∧ Keep w w' p := by
  have HP := Lib.hid (And.intro hp (And.intro hl hh))
  have hpw := hp.lt
  clear hp hl hh
  go_enter Tryf.func21, Tryf.ntmps21
  go_wp2_with (go_at_call 25; refine hW.mono ?_; rintro e w1 ⟨rfl, hb1⟩)
  clear hW
  have hs1 := hb1.size
  have hrp : w1.heap.size ≠ p := by omega
  have HQ := Lib.hid (And.intro (HP.out.1.below hb1) hb1)
  have HJ := Lib.hid (And.intro hj0 hj1)
  clear hb1 hj0 hj1
  go_wp2_with fail
  refine wp_scope_to 0 rfl ?_
  go_wp2_with fail
  go_loopw [11] (fun x wr => ∃ k : Nat, k ≤ j ∧ x = .int .i64 k ∧ wr = w1) (fun x _ => t.size - (intOf x).toNat)
  case atStart => exact ⟨0, Nat.zero_le _, rfl, rfl⟩
  case round =>
  obtain ⟨k, hk, rfl, rfl⟩ := hrel
  have hks : k < t.size := by omega
  have hby := byteAt_get t k hks
  have hwr : wrap32 ((t[k]'hks).toNat : Int) = ((t[k]'hks).toNat : Int) := by have := (t[k]'hks).toNat_lt; unfold wrap32; omega
  rcases (show k < j ∨ k = j by omega) with hkj | rfl
  · have hkk := HJ.out.1 k hkj
    unfold okAt at hkk
    simp only [Bool.and_eq_true, decide_eq_true_eq] at hkk
    have h128 : decide ((128 : Int) ≤ ((t[k]'hks).toNat : Int)) = false := by simp; omega
    have HN : Hid (nameCont ((t[k]'hks).toNat : Int) = true) := Lib.hid (by rw [hby]; exact hkk.2)
    clear hby hkk
    go_wp2_with (go_at_call 26; refine (nc_any _ _).mono ?_; rintro e w3 ⟨rfl, rfl⟩; rw [HN.out])
    go_roundw
    case rel => exact ⟨k + 1, by omega, by go_num, trivial⟩
    case measure => simp [intOf]; omega
  have hbad : decide ((128 : Int) ≤ ((t[k]'hks).toNat : Int)) = true ∨ (decide ((128 : Int) ≤ ((t[k]'hks).toNat : Int)) = false ∧ Hid (nameCont ((t[k]'hks).toNat : Int) = false)) := by
    have := HJ.out.2
    unfold okAt at this
    rw [← hby] at this
    by_cases h : (t[k]'hks).toNat < 128
    · rw [decide_eq_true h, Bool.true_and] at this
      exact .inr ⟨by simp; omega, Lib.hid this⟩
    · exact .inl (by simp; omega)
  clear hby
  rcases id hbad with h128 | ⟨h128, HN⟩
  all_goals
   go_wp2_with (go_at_call 26; refine (nc_any _ _).mono ?_; rintro e w3 ⟨rfl, rfl⟩; rw [HN.out])
   go_step3
   refine ⟨rfl, ?_⟩
   obtain ⟨w1, hw1⟩ : ∃ w1, w1 = wr := ⟨_, rfl⟩
   subst hw1
   go_wp2_with fail
   rw [Exit.noGoto_normal]
   clear h128 hbad
   go_wp2_with fail
   obtain ⟨r, hr⟩ : ∃ r, w1.heap.size = r := ⟨_, rfl⟩
   have HR := Lib.hid hr
   rw [hr] at hrp ⊢
   clear hr
   go_loopg [] t.size (fun k wr => GI t true B p l m a lnv syv zs s e w1 r k wr)
   case atStart =>
     have hr := HR.out
     have hB1 : B ≤ w1.heap.size := Nat.le_trans hB hs1
     refine ⟨0, [], Nat.zero_le _, by omega, ⟨rfl, Nat.zero_le _, ?_, ?_, ?_, ?_⟩⟩
     · rw [← hr]; exact It.new w1 t
     · rw [List.append_nil]; exact pr_alloc HQ.out.1 _
     · exact (Below.refl _ _).alloc hB1 _
     · exact fun k o h1 _ _ _ => blk_alloc h1 _
   case round =>
     obtain ⟨i, ys, hi, hk', hG⟩ := hrel
     rcases (show i = t.size ∨ i < t.size by omega) with rfl | hlt
     · have HG := Lib.hid hG
       clear hG
       go_wp2_with (refine wpList_next_end rfl _ rfl r t t.size rfl HG.out.it (Nat.lt_irrefl _) ?_)
       go_end0
       have e1 := HG.out.out
       rw [slow_end _ _ _ _ (Nat.lt_irrefl _), List.append_nil] at e1
       have hr := HR.out
       refine ⟨rfl, ?_, (HQ.out.2.mono hB).trans HG.out.bel, fun k o h1 h2 h3 => HG.out.kn k o (below_blk HQ.out.2 h1 (blk_lt h1)) h2 h3 (fun e => by have := blk_lt h1; omega)⟩
       rw [← e1]
       exact HG.out.pr
     · have HG := Lib.hid hG
       clear hG
       go_upto_region 28 with (refine wpList_next_at rfl _ rfl r t i rfl HG.out.it hlt ?_; intro w2 hit2 hg2)
       have hcp : ((Utf8.decode t i).1 : Int) = cp t i := rfl
       rw [hcp]
       clear hcp
       have hP2 := HG.out.pr.next HG.out.it hg2 hrp
       obtain ⟨ao, c0, hb, _, _, _⟩ := hP2
       have c7 := (hb.cell 7).trans (pr7 _ _ _ _ _ _ _ _ _ _)
       have ltp := hb.lt
       have HX := Lib.hid (And.intro (HG.out.pr.next HG.out.it hg2 hrp) (And.intro hit2 hg2))
       have hnh := HP.out.2.2.1 i hlt
       have hcr := cp_range t i
       have HL : Hid ((zs ++ ys).length + 8 ≤ 140737488355328) := Lib.hid (by have := HG.out.len; have := HP.out.2.1; rw [List.length_append]; omega)
       have HE : Hid (escAt t true i = true → ¬ hexd (cp t i)) := Lib.hid (fun h => esc_hex t a true i hlt HP.out.2.2 h)
       have HPc : Hid (piece t true i = (if escAt t true i then [92] else []) ++ Lib.encodeRuneZ (cp t i) ∧ escAt t true i = (!nameCont (cp t i) || (decide (i = 0) && !true))) := Lib.hid ⟨rfl, rfl⟩
       clear hb hit2 hg2
       obtain ⟨c, hc⟩ : ∃ c, cp t i = c := ⟨_, rfl⟩
       rw [hc] at hnh hcr HE HPc ⊢
       clear hc
       have t13 : (c == 13) = false := beq_eq_false_iff_ne.2 hnh.1
       have t10 : (c == 10) = false := beq_eq_false_iff_ne.2 hnh.2.1
       have t12 : (c == 12) = false := beq_eq_false_iff_ne.2 hnh.2.2.1
       have tfe : (c == 65279) = false := beq_eq_false_iff_ne.2 hnh.2.2.2.1
       have h128 : a = true → decide (128 ≤ c) = false := fun h => by have := hnh.2.2.2.2 h; simp; omega
       have hrl := runeLen_le c
       have hwsz : ws = 0 ∨ (ws == 0) = false := by
         by_cases h : ws = 0
         · exact .inl h
         · exact .inr (beq_eq_false_iff_ne.2 h)
       clear hnh
       have hBr : B ≤ r := by have := HR.out; omega
       have hB2 : B ≤ w2.heap.size := by have := HX.out.2.1.lt; omega
       have fin : ∀ (w4 : World) (qs : List Int), qs = (zs ++ ys) ++ piece t true i → Pr w4 B p l m a lnv syv qs s e → Below B w2 w4 → Keep w2 w4 p → GI t true B p l m a lnv syv zs s e w1 r (gk - 1) w4 := by
         intro w4 qs hq hp4 hb4 hk4
         subst hq
         refine ⟨i + wd t i, ys ++ piece t true i, (width_le t i hlt).2, ?_, HG.out.next hlt hk' hrp hBr HX.out.2.1 HX.out.2.2 (by rw [← List.append_assoc]; exact hp4) hb4 hk4⟩
         have := (width_le t i hlt).1
         unfold wd; omega
       have FIN := Lib.hid fin
       clear fin
       have hkp : 0 < gk := by omega
       have hiz : i = 0 ∨ ((i : Int) == 0) = false := by
         by_cases h : i = 0
         · exact .inl h
         · exact .inr (beq_eq_false_iff_ne.2 (by omega))
       have hways : (Hid (piece t true i = [92] ++ Lib.encodeRuneZ c ∧ ¬ hexd c) ∧ Hid (nameCont c = false)) ∨ (Hid (piece t true i = Lib.encodeRuneZ c) ∧ Hid (nameCont c = true)) := by
         obtain ⟨q1, q2⟩ := HPc.out
         cases hn : nameCont c with
         | false =>
           have e : escAt t true i = true := by rw [q2, hn]; rfl
           rw [if_pos e] at q1
           exact .inl ⟨Lib.hid ⟨q1, HE.out e⟩, Lib.hid rfl⟩
         | true =>
           have e : escAt t true i = false := by rw [q2, hn]; simp
           rw [if_neg (by rw [e]; decide), List.nil_append] at q1
           exact .inr ⟨Lib.hid q1, Lib.hid rfl⟩
       clear HPc HE
       rcases hways with ⟨hpe, HN⟩ | ⟨hpe, HN⟩
       · have HC : Hid (∀ (q : ByteArray) (z : Bool), Calls Tryf.prog 28 #[.pointer (some ⟨p, 0, none⟩), .int .i32 c, .int .u8 1, .string q, .bool z] w2 fun en w' => en = .returned (.tuple #[]) ∧ GI t true B p l m a lnv syv zs s e w1 r (gk - 1) w') := Lib.hid (fun q z => (pwe_bs B p l m a lnv syv (zs ++ ys) s e c q z w2 HX.out.1 (by omega) hcr.2 hpe.out.2 HL.out hB2).mono (by
           rintro en w4 ⟨h1, h2, h3, h4⟩
           exact ⟨h1, FIN.out _ _ (by rw [hpe.out.1, List.append_assoc]) h2 h3 h4⟩))
         rcases hwsz with rfl | hws <;> rcases hiz with rfl | hi0 <;> cases a
         all_goals
           try simp only [Bool.false_eq_true, false_implies, true_implies, forall_const, reduceCtorEq] at h128
           go_wp2_with (first | (go_at_call 26; refine (nc_any c _).mono ?_; rintro e2 w3 ⟨rfl, rfl⟩; rw [HN.out]) | (go_at_call 27; refine (Tryf.utf8_RuneLen c _).mono ?_; rintro e2 w3 ⟨rfl, rfl⟩) | (go_at_call 28; refine (HC.out _ _).mono ?_; rintro e2 w3 ⟨rfl, hgi⟩))
           go_roundg (gk - 1)
           case rel => exact hgi
           case measure => omega
       · have HC : Hid (∀ (q : ByteArray) (z : Bool), Calls Tryf.prog 28 #[.pointer (some ⟨p, 0, none⟩), .int .i32 c, .int .u8 0, .string q, .bool z] w2 fun en w' => en = .returned (.tuple #[]) ∧ GI t true B p l m a lnv syv zs s e w1 r (gk - 1) w') := Lib.hid (fun q z => (pwe_none B p l m a lnv syv (zs ++ ys) s e c q z w2 HX.out.1 (by omega) hcr.2 HL.out hB2).mono (by
           rintro en w4 ⟨h1, h2, h3, h4⟩
           exact ⟨h1, FIN.out _ _ (by rw [hpe.out]) h2 h3 h4⟩))
         rcases hwsz with rfl | hws <;> rcases hiz with rfl | hi0 <;> cases a
         all_goals
           try simp only [Bool.false_eq_true, false_implies, true_implies, forall_const, reduceCtorEq] at h128
           go_wp2_with (first | (go_at_call 26; refine (nc_any c _).mono ?_; rintro e2 w3 ⟨rfl, rfl⟩; rw [HN.out]) | (go_at_call 27; refine (Tryf.utf8_RuneLen c _).mono ?_; rintro e2 w3 ⟨rfl, rfl⟩) | (go_at_call 28; refine (HC.out _ _).mono ?_; rintro e2 w3 ⟨rfl, hgi⟩))
           go_roundg (gk - 1)
           case rel => exact hgi
           case measure => omega
end Go.Proofs.YtmfhoeihdikklaaFmt
