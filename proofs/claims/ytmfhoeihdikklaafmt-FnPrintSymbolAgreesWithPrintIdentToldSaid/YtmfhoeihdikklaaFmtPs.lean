/-
  printIdent's slow path. No statement of the seat is proved here.
-/
import Derived.Test.YtmfhoeihdikklaaFmtPi
namespace Go.Proofs.YtmfhoeihdikklaaFmt
open Go.RowKit
set_option linter.unusedVariables false
set_option linter.unusedSimpArgs false

def GI2 (t : ByteArray) (b : Bool) (B p : Nat) (l : Int) (m a : Bool) (lnv : Option Nat) (syv : Option Addr × Nat) (zs : List Int) (s e : Int) (w : World) (r : Nat) (k : Nat) (wr : World) : Prop :=
  ∃ (i : Nat) (ys : List Int), i ≤ t.size ∧ t.size - i ≤ k ∧ Gi t b B p l m a lnv syv zs s e w r k i ys wr
set_option maxHeartbeats 4000000 in
set_option maxRecDepth 100000 in
theorem pi_slow2 (B p : Nat) (l : Int) (m a : Bool) (lnv : Option Nat) (syv : Option Addr × Nat) (zs : List Int) (s e : Int) (t : ByteArray) (ws : Int) (w : World) (hp : Pr w B p l m a lnv syv zs s e) (hB : B ≤ w.heap.size) (ht : t.size ≤ 1048576) (hl : zs.length + 8388608 ≤ 140737488355328)
    (hW : Calls Tryf.prog 25 #[.string t] w fun e w' => e = .returned (.bool false) ∧ Below w.heap.size w w') (hh : NoHex t a false) :
    Calls Tryf.prog 21 #[.pointer (some ⟨p, 0, none⟩), .string t, .int .u8 0, .int .u8 ws] w fun en w' => en = .returned (.tuple #[]) ∧ Pr w' B p l m a lnv syv (zs ++ slow t false t.size 0) s e ∧ Below B w w' ∧ Keep w w' p := by
  have HP := Lib.hid (And.intro hp (And.intro hl hh))
  have hpw := hp.lt
  clear hp hl hh
  go_enter Tryf.func21, Tryf.ntmps21
  go_wp2_with (go_at_call 25; refine hW.mono ?_; rintro e w1 ⟨rfl, hb1⟩)
  clear hW
  have hs1 := hb1.size
  have hrp : w1.heap.size ≠ p := by omega
  have HQ := Lib.hid (And.intro (HP.out.1.below hb1) hb1)
  clear hb1
  go_wp2_with fail
  obtain ⟨r, hr⟩ : ∃ r, w1.heap.size = r := ⟨_, rfl⟩
  have HR := Lib.hid hr
  rw [hr] at hrp ⊢
  clear hr
  go_loopg [] t.size (fun k wr => GI2 t false B p l m a lnv syv zs s e w1 r k wr)
  case atStart =>
    have hr := HR.out
    have hB1 : B ≤ w1.heap.size := Nat.le_trans hB hs1
    refine ⟨0, [], Nat.zero_le _, by omega, ⟨rfl, Nat.zero_le _, ?_, ?_, ?_, ?_⟩⟩
    · rw [← hr]; exact It.new w1 t
    · rw [List.append_nil]; exact pr_alloc HQ.out.1 _
    · exact (Below.refl _ _).alloc hB1 _
    · exact fun k o h1 _ _ _ => blk_alloc h1 _
  case round =>
    obtain ⟨i, ys, hi, hk, hG⟩ := hrel
    rcases (show i = t.size ∨ i < t.size by omega) with rfl | hlt
    · have HG := Lib.hid hG
      clear hG
      go_wp2_with (refine wpList_next_end rfl _ rfl r t t.size rfl HG.out.it (Nat.lt_irrefl _) ?_)
      go_end0
      have e1 := HG.out.out
      rw [slow_end _ _ _ _ (Nat.lt_irrefl _), List.append_nil] at e1
      have hr := HR.out
      refine ⟨rfl, ?_, (HQ.out.2.mono hB).trans HG.out.bel, fun k o h1 h2 h3 => HG.out.kn k o (below_blk HQ.out.2 h1 (blk_lt h1)) h2 h3 (fun e => by have := blk_lt h1; omega)⟩
      rw [← e1]
      exact HG.out.pr
    · have HG := Lib.hid hG
      clear hG
      go_upto_region 28 with (refine wpList_next_at rfl _ rfl r t i rfl HG.out.it hlt ?_; intro w2 hit2 hg2)
      have hcp : ((Utf8.decode t i).1 : Int) = cp t i := rfl
      rw [hcp]
      clear hcp
      have hP2 := HG.out.pr.next HG.out.it hg2 hrp
      obtain ⟨ao, c0, hb, _, _, _⟩ := hP2
      have c7 := (hb.cell 7).trans (pr7 _ _ _ _ _ _ _ _ _ _)
      have ltp := hb.lt
      have HX := Lib.hid (And.intro (HG.out.pr.next HG.out.it hg2 hrp) (And.intro hit2 hg2))
      have hnh := HP.out.2.2.1 i hlt
      have hcr := cp_range t i
      have HL : Hid ((zs ++ ys).length + 8 ≤ 140737488355328) := Lib.hid (by have := HG.out.len; have := HP.out.2.1; rw [List.length_append]; omega)
      have HE : Hid (escAt t false i = true → ¬ hexd (cp t i)) := Lib.hid (fun h => esc_hex t a false i hlt HP.out.2.2 h)
      have HPc : Hid (piece t false i = (if escAt t false i then [92] else []) ++ Lib.encodeRuneZ (cp t i) ∧ escAt t false i = (!nameCont (cp t i) || (decide (i = 0) && !false))) := Lib.hid ⟨rfl, rfl⟩
      clear hb hit2 hg2
      obtain ⟨c, hc⟩ : ∃ c, cp t i = c := ⟨_, rfl⟩
      rw [hc] at hnh hcr HE HPc ⊢
      clear hc
      have t13 : (c == 13) = false := beq_eq_false_iff_ne.2 hnh.1
      have t10 : (c == 10) = false := beq_eq_false_iff_ne.2 hnh.2.1
      have t12 : (c == 12) = false := beq_eq_false_iff_ne.2 hnh.2.2.1
      have tfe : (c == 65279) = false := beq_eq_false_iff_ne.2 hnh.2.2.2.1
      have h128 : a = true → decide (128 ≤ c) = false := fun h => by have := hnh.2.2.2.2 h; simp; omega
      have hrl := runeLen_le c
      have hwsz : ws = 0 ∨ (ws == 0) = false := by
        by_cases h : ws = 0
        · exact .inl h
        · exact .inr (beq_eq_false_iff_ne.2 h)
      clear hnh
      have hBr : B ≤ r := by have := HR.out; omega
      have hB2 : B ≤ w2.heap.size := by have := HX.out.2.1.lt; omega
      have fin : ∀ (w4 : World) (qs : List Int), qs = (zs ++ ys) ++ piece t false i → Pr w4 B p l m a lnv syv qs s e → Below B w2 w4 → Keep w2 w4 p → GI2 t false B p l m a lnv syv zs s e w1 r (gk - 1) w4 := by
        intro w4 qs hq hp4 hb4 hk4
        subst hq
        refine ⟨i + wd t i, ys ++ piece t false i, (width_le t i hlt).2, ?_, HG.out.next hlt hk hrp hBr HX.out.2.1 HX.out.2.2 (by rw [← List.append_assoc]; exact hp4) hb4 hk4⟩
        have := (width_le t i hlt).1
        unfold wd; omega
      have FIN := Lib.hid fin
      clear fin
      have hkp : 0 < gk := by omega
      have hways : (Hid (piece t false i = [92] ++ Lib.encodeRuneZ c ∧ ¬ hexd c) ∧ (i = 0 ∨ (((i : Int) == 0) = false ∧ Hid (nameCont c = false)))) ∨ (Hid (piece t false i = Lib.encodeRuneZ c) ∧ ((i : Int) == 0) = false ∧ Hid (nameCont c = true)) := by
        obtain ⟨q1, q2⟩ := HPc.out
        by_cases h0 : i = 0
        · have e : escAt t false i = true := by rw [q2]; simp [h0]
          rw [if_pos e] at q1
          exact .inl ⟨Lib.hid ⟨q1, HE.out e⟩, .inl h0⟩
        · have h1 : ((i : Int) == 0) = false := beq_eq_false_iff_ne.2 (by omega)
          cases hn : nameCont c with
          | false =>
            have e : escAt t false i = true := by rw [q2, hn]; rfl
            rw [if_pos e] at q1
            exact .inl ⟨Lib.hid ⟨q1, HE.out e⟩, .inr ⟨h1, Lib.hid rfl⟩⟩
          | true =>
            have e : escAt t false i = false := by rw [q2, hn]; simp [h0]
            rw [if_neg (by rw [e]; decide), List.nil_append] at q1
            exact .inr ⟨Lib.hid q1, h1, Lib.hid rfl⟩
      clear HPc HE
      rcases hways with ⟨hpe, hway⟩ | ⟨hpe, hi0, HN⟩
      · have HC : Hid (∀ (q : ByteArray) (z : Bool), Calls Tryf.prog 28 #[.pointer (some ⟨p, 0, none⟩), .int .i32 c, .int .u8 1, .string q, .bool z] w2 fun en w' => en = .returned (.tuple #[]) ∧ GI2 t false B p l m a lnv syv zs s e w1 r (gk - 1) w') := Lib.hid (fun q z => (pwe_bs B p l m a lnv syv (zs ++ ys) s e c q z w2 HX.out.1 (by omega) hcr.2 hpe.out.2 HL.out hB2).mono (by
          rintro en w4 ⟨h1, h2, h3, h4⟩
          exact ⟨h1, FIN.out _ _ (by rw [hpe.out.1, List.append_assoc]) h2 h3 h4⟩))
        rcases hway with rfl | ⟨hi0, HN⟩
        · cases hn : nameCont c <;> rcases hwsz with rfl | hws <;> cases a
          all_goals
            have HN := Lib.hid hn
            try simp only [Bool.false_eq_true, false_implies, true_implies, forall_const, reduceCtorEq] at h128
            clear hn
            go_wp2_with (first | (go_at_call 26; refine (nc_any c _).mono ?_; rintro e2 w3 ⟨rfl, rfl⟩; rw [HN.out]) | (go_at_call 27; refine (Tryf.utf8_RuneLen c _).mono ?_; rintro e2 w3 ⟨rfl, rfl⟩) | (go_at_call 28; refine (HC.out _ _).mono ?_; rintro e2 w3 ⟨rfl, hgi⟩))
            go_roundg (gk - 1)
            case rel => exact hgi
            case measure => omega
        · rcases hwsz with rfl | hws <;> cases a
          all_goals
            try simp only [Bool.false_eq_true, false_implies, true_implies, forall_const, reduceCtorEq] at h128
            go_wp2_with (first | (go_at_call 26; refine (nc_any c _).mono ?_; rintro e2 w3 ⟨rfl, rfl⟩; rw [HN.out]) | (go_at_call 27; refine (Tryf.utf8_RuneLen c _).mono ?_; rintro e2 w3 ⟨rfl, rfl⟩) | (go_at_call 28; refine (HC.out _ _).mono ?_; rintro e2 w3 ⟨rfl, hgi⟩))
            go_roundg (gk - 1)
            case rel => exact hgi
            case measure => omega
      · have HC : Hid (∀ (q : ByteArray) (z : Bool), Calls Tryf.prog 28 #[.pointer (some ⟨p, 0, none⟩), .int .i32 c, .int .u8 0, .string q, .bool z] w2 fun en w' => en = .returned (.tuple #[]) ∧ GI2 t false B p l m a lnv syv zs s e w1 r (gk - 1) w') := Lib.hid (fun q z => (pwe_none B p l m a lnv syv (zs ++ ys) s e c q z w2 HX.out.1 (by omega) hcr.2 HL.out hB2).mono (by
          rintro en w4 ⟨h1, h2, h3, h4⟩
          exact ⟨h1, FIN.out _ _ (by rw [hpe.out]) h2 h3 h4⟩))
        rcases hwsz with rfl | hws <;> cases a
        all_goals
          try simp only [Bool.false_eq_true, false_implies, true_implies, forall_const, reduceCtorEq] at h128
          go_wp2_with (first | (go_at_call 26; refine (nc_any c _).mono ?_; rintro e2 w3 ⟨rfl, rfl⟩; rw [HN.out]) | (go_at_call 27; refine (Tryf.utf8_RuneLen c _).mono ?_; rintro e2 w3 ⟨rfl, rfl⟩) | (go_at_call 28; refine (HC.out _ _).mono ?_; rintro e2 w3 ⟨rfl, hgi⟩))
          go_roundg (gk - 1)
          case rel => exact hgi
          case measure => omega
end Go.Proofs.YtmfhoeihdikklaaFmt
