/-
  The law's own reader of a segment. No statement of the seat is proved here.
-/
import Derived.Test.YtoegmcakolidbaaDoorNu
import Derived.Test.YtoegmcakolidbaaDoorCk
namespace Go.Proofs.YtoegmcakolidbaaDoor
open Go.RowKit
set_option linter.unusedVariables false
def pad5 (zl : List Int) : List Int := zl ++ List.replicate (5 - zl.length) 0
theorem pad5_five (zl : List Int) (h : zl.length ≤ 5) : ∃ a b c d e, pad5 zl = [a, b, c, d, e] := by
  match zl, h with
  | [], _ => exact ⟨_, _, _, _, _, rfl⟩
  | [a], _ => exact ⟨_, _, _, _, _, rfl⟩
  | [a, b], _ => exact ⟨_, _, _, _, _, rfl⟩
  | [a, b, c], _ => exact ⟨_, _, _, _, _, rfl⟩
  | [a, b, c, d], _ => exact ⟨_, _, _, _, _, rfl⟩
  | [a, b, c, d, e], _ => exact ⟨_, _, _, _, _, rfl⟩
theorem pad5_nth (zl : List Int) (i : Nat) : nth (pad5 zl) i = nth zl i := by
  unfold pad5 nth
  rw [List.getD_eq_getElem?_getD, List.getD_eq_getElem?_getD]
  rcases Nat.lt_or_ge i zl.length with h | h
  · rw [List.getElem?_append_left h]
  · rw [List.getElem?_append_right h, List.getElem?_replicate, List.getElem?_eq_none h]
    split <;> rfl
theorem pad5_step (zl : List Int) (i : Nat) (z : Int) (hi : i < zl.length) (h5 : zl.length ≤ 5) (h : nth zl i = z) : (pad5 (zl.take i)).set i z = pad5 (zl.take (i + 1)) := by
  have hm : (zl.take i).length = i := by rw [List.length_take]; omega
  have hm1 : (zl.take (i + 1)).length = i + 1 := by rw [List.length_take]; omega
  have e : 5 - i = (5 - (i + 1)) + 1 := by omega
  unfold pad5
  rw [hm, hm1, e, List.replicate_succ, List.set_append_right _ _ (by omega), hm, Nat.sub_self, List.set_cons_zero, List.take_succ_eq_append_getElem hi, List.append_assoc, List.singleton_append, ← nth_get, h]
def Z5 : Array Value := #[.int .i64 0, .int .i64 0, .int .i64 0, .int .i64 0, .int .i64 0]
/-- at the number k -/
def GP (zl : List Int) (st : Nat) (w : World) (b : Nat) (k : Nat) (v1 v9 : Value) (wr : World) : Prop := ∃ i : Nat, i ≤ zl.length ∧ zl.length - i ≤ k ∧ v1 = .int .i64 (st + (encL (zl.take i)).length : Nat) ∧ v9 = .int .i64 i ∧ Blk wr b 51 Z5 ∧ Blk wr (b + 1) 51 (ints .i64 (pad5 (zl.take i))) ∧ Below b w wr
def PSeg (zl : List Int) (en : Nat) (w : World) (e : Ending) (w' : World) : Prop := e = .returned (.tuple #[.agg (ints .i64 (pad5 zl)), .int .i64 zl.length, .int .i64 en, .bool true]) ∧ Below w.heap.size w w'
theorem encL_take (zl : List Int) (i : Nat) (hi : i < zl.length) : (encL (zl.take (i + 1))).length = (encL (zl.take i)).length + (enc (nth zl i)).length := by
  rw [List.take_succ_eq_append_getElem hi, encL_app, List.length_append, encL_one, nth_get zl i hi]
theorem encL_take_le (zl : List Int) (i : Nat) : (encL (zl.take i)).length ≤ (encL zl).length := by
  have h2 : encL zl = encL (zl.take i) ++ encL (zl.drop i) := by rw [← encL_app, List.take_append_drop]
  rw [h2, List.length_append]; omega
set_option maxRecDepth 100000 in
set_option maxHeartbeats 4000000 in
theorem ps_any (ao : Option Addr) (cap n : Nat) (zs zl : List Int) (st en : Nat) (w : World) (hn : zs.length = n) (hin : In .u8 w ao zs) (hl : n ≤ 1073741824) (h1 : 1 ≤ zl.length) (h5 : zl.length ≤ 5) (hb : ∀ z ∈ zl, Bnd z)
    (hs : ∀ i, i < zl.length → NumAt zs (st + (encL (zl.take i)).length) (nth zl i)) (he : st + (encL zl).length = en) (hen : en = n ∨ (en < n ∧ (nth zs en = 44 ∨ nth zs en = 59))) (ht : Tab w w.heap.size) :
    Calls Tryd.prog 16 #[.slice ao n cap, .int .i64 st] w (PSeg zl en w) := by
  have HI := Lib.hid (And.intro hin (And.intro hn (And.intro hb (And.intro hs (And.intro hen (And.intro he ht))))))
  have henn : en ≤ n := by omega
  clear hin hn hb hs hen he ht
  go_enter Tryd.func16, Tryd.ntmps16
  go_wp2_with fail
  obtain ⟨b, hb⟩ : ∃ b, w.heap.size = b := ⟨_, rfl⟩
  have hstart : GP zl st w b zl.length (.int .i64 st) (.int .i64 0) ((w.alloc (.cells Z5 51)).alloc (.cells Z5 51)) := by
    subst hb
    have k1 := (Blk.new w 51 Z5).alloc (.cells Z5 51)
    have k2 := Blk.new (w.alloc (.cells Z5 51)) 51 Z5
    rw [show (w.alloc (.cells Z5 51)).heap.size = w.heap.size + 1 by simp] at k2
    exact ⟨0, by omega, by omega, by simp [encL], rfl, k1, k2, ((Below.refl _ w).alloc (Nat.le_refl _) _).alloc (by simp) _⟩
  have HST := Lib.hid hstart
  have HBB := Lib.hid hb
  rw [hb]
  clear hstart hb
  go_loopg [1, 9] zl.length (fun k a c wr => GP zl st w b k a c wr)
  case atStart => exact HST.out
  case round =>
    obtain ⟨i, hi, hk, rfl, rfl, k0, k1, hbel⟩ := hrel
    have hlen2 : st + (encL (zl.take i)).length ≤ en := by have := HI.out.2.2.2.2.2.1; have := encL_take_le zl i; omega
    rcases (show i = zl.length ∨ i < zl.length by omega) with rfl | hi4
    · have hp : st + (encL (zl.take zl.length)).length = en := by rw [List.take_of_length_le (by omega)]; exact HI.out.2.2.2.2.2.1
      rw [hp]
      rw [List.take_of_length_le (Nat.le_refl _)] at k1
      obtain ⟨m, hm⟩ : ∃ m, zl.length = m := ⟨_, rfl⟩
      rw [hm] at h1 h5 ⊢
      have HM := Lib.hid hm
      have HK := Lib.hid (And.intro k0 (And.intro k1 hbel))
      obtain ⟨z0, z1, z2, z3, z4, hz5⟩ := pad5_five zl (by rw [hm]; exact h5)
      have v := k1.cell
      rw [hz5] at v
      have HZ5 := Lib.hid hz5
      have v0 := v 0
      have v1 := v 1
      have v2 := v 2
      have v3 := v 3
      have v4 := v 4
      have a0 : wr.cell? ⟨b, 0, none⟩ = some (.int .i64 0) := k0.cell 0
      have a1 : wr.cell? ⟨b, 1, none⟩ = some (.int .i64 0) := k0.cell 1
      have a2 : wr.cell? ⟨b, 2, none⟩ = some (.int .i64 0) := k0.cell 2
      have a3 : wr.cell? ⟨b, 3, none⟩ = some (.int .i64 0) := k0.cell 3
      have a4 : wr.cell? ⟨b, 4, none⟩ = some (.int .i64 0) := k0.cell 4
      have f0 := k0.free
      simp [ints] at v0 v1 v2 v3 v4
      have hm0 : decide (0 < m) = true := decide_eq_true (by omega)
      clear v hz5 hm k0 k1 hbel hp hlen2 hk hi
      rcases (show en = n ∨ en < n by omega) with rfl | hlt
      · go_wp2_with fail
        have q1 : Blk (((((wr.setCell ⟨b, 0, none⟩ (.int .i64 z0)).setCell ⟨b, 1, none⟩ (.int .i64 z1)).setCell ⟨b, 2, none⟩ (.int .i64 z2)).setCell ⟨b, 3, none⟩ (.int .i64 z3)).setCell ⟨b, 4, none⟩ (.int .i64 z4)) b 51 #[.int .i64 z0, .int .i64 z1, .int .i64 z2, .int .i64 z3, .int .i64 z4] := (((((HK.out.1.set 0 (.int .i64 z0)).set 1 (.int .i64 z1)).set 2 (.int .i64 z2)).set 3 (.int .i64 z3)).set 4 (.int .i64 z4))
        have q2 : Below b w (((((wr.setCell ⟨b, 0, none⟩ (.int .i64 z0)).setCell ⟨b, 1, none⟩ (.int .i64 z1)).setCell ⟨b, 2, none⟩ (.int .i64 z2)).setCell ⟨b, 3, none⟩ (.int .i64 z3)).setCell ⟨b, 4, none⟩ (.int .i64 z4)) := (((((HK.out.2.2.setCell (p := ⟨b, 0, none⟩) (Nat.le_refl _) (.int .i64 z0)).setCell (p := ⟨b, 1, none⟩) (Nat.le_refl _) (.int .i64 z1)).setCell (p := ⟨b, 2, none⟩) (Nat.le_refl _) (.int .i64 z2)).setCell (p := ⟨b, 3, none⟩) (Nat.le_refl _) (.int .i64 z3)).setCell (p := ⟨b, 4, none⟩) (Nat.le_refl _) (.int .i64 z4))
        obtain ⟨Wf, hWf⟩ : ∃ Wf, (((((wr.setCell ⟨b, 0, none⟩ (.int .i64 z0)).setCell ⟨b, 1, none⟩ (.int .i64 z1)).setCell ⟨b, 2, none⟩ (.int .i64 z2)).setCell ⟨b, 3, none⟩ (.int .i64 z3)).setCell ⟨b, 4, none⟩ (.int .i64 z4)) = Wf := ⟨_, rfl⟩
        rw [hWf] at q1 q2 ⊢
        have c0 := q1.cell 0
        have c1 := q1.cell 1
        have c2 := q1.cell 2
        have c3 := q1.cell 3
        have c4 := q1.cell 4
        simp at c0 c1 c2 c3 c4
        refine bodyPost_ret (v := .tuple #[.agg #[.int .i64 z0, .int .i64 z1, .int .i64 z2, .int .i64 z3, .int .i64 z4], .int .i64 m, .int .i64 en, .bool true]) (by simp [results, Tryd.results16, go_sem, c0, c1, c2, c3, c4]) rfl ⟨?_, ?_⟩
        · rw [HZ5.out, HM.out]; rfl
        · rw [HBB.out]; exact q2
      · obtain ⟨q, off, hx, hq, hc⟩ := HI.out.1.at (i := en) (by rw [HI.out.2.1]; exact hlt)
        subst hx
        have hc' : wr.cell? ⟨q, off + en, none⟩ = some (.int .u8 (nth zs en)) := (HK.out.2.2.cell (p := ⟨q, off + en, none⟩) (by have := HBB.out; show q < b; omega)).trans hc
        have hsep : nth zs en = 44 ∨ nth zs en = 59 := by
          rcases HI.out.2.2.2.2.1 with h | h
          · omega
          · exact h.2
        obtain ⟨sp, hsp⟩ : ∃ sp, nth zs en = sp := ⟨_, rfl⟩
        rw [hsp] at hc' hsep
        have HSP := Lib.hid hsep
        clear hsp hsep hc
        go_wp2_with (go_at_call 27; refine (sep_yes sp _ HSP.out).mono ?_; rintro e w' ⟨rfl, rfl⟩)
        have q1 : Blk (((((wr.setCell ⟨b, 0, none⟩ (.int .i64 z0)).setCell ⟨b, 1, none⟩ (.int .i64 z1)).setCell ⟨b, 2, none⟩ (.int .i64 z2)).setCell ⟨b, 3, none⟩ (.int .i64 z3)).setCell ⟨b, 4, none⟩ (.int .i64 z4)) b 51 #[.int .i64 z0, .int .i64 z1, .int .i64 z2, .int .i64 z3, .int .i64 z4] := (((((HK.out.1.set 0 (.int .i64 z0)).set 1 (.int .i64 z1)).set 2 (.int .i64 z2)).set 3 (.int .i64 z3)).set 4 (.int .i64 z4))
        have q2 : Below b w (((((wr.setCell ⟨b, 0, none⟩ (.int .i64 z0)).setCell ⟨b, 1, none⟩ (.int .i64 z1)).setCell ⟨b, 2, none⟩ (.int .i64 z2)).setCell ⟨b, 3, none⟩ (.int .i64 z3)).setCell ⟨b, 4, none⟩ (.int .i64 z4)) := (((((HK.out.2.2.setCell (p := ⟨b, 0, none⟩) (Nat.le_refl _) (.int .i64 z0)).setCell (p := ⟨b, 1, none⟩) (Nat.le_refl _) (.int .i64 z1)).setCell (p := ⟨b, 2, none⟩) (Nat.le_refl _) (.int .i64 z2)).setCell (p := ⟨b, 3, none⟩) (Nat.le_refl _) (.int .i64 z3)).setCell (p := ⟨b, 4, none⟩) (Nat.le_refl _) (.int .i64 z4))
        obtain ⟨Wf, hWf⟩ : ∃ Wf, (((((wr.setCell ⟨b, 0, none⟩ (.int .i64 z0)).setCell ⟨b, 1, none⟩ (.int .i64 z1)).setCell ⟨b, 2, none⟩ (.int .i64 z2)).setCell ⟨b, 3, none⟩ (.int .i64 z3)).setCell ⟨b, 4, none⟩ (.int .i64 z4)) = Wf := ⟨_, rfl⟩
        rw [hWf] at q1 q2 ⊢
        have c0 := q1.cell 0
        have c1 := q1.cell 1
        have c2 := q1.cell 2
        have c3 := q1.cell 3
        have c4 := q1.cell 4
        simp at c0 c1 c2 c3 c4
        refine bodyPost_ret (v := .tuple #[.agg #[.int .i64 z0, .int .i64 z1, .int .i64 z2, .int .i64 z3, .int .i64 z4], .int .i64 m, .int .i64 en, .bool true]) (by simp [results, Tryd.results16, go_sem, c0, c1, c2, c3, c4]) rfl ⟨?_, ?_⟩
        · rw [HZ5.out, HM.out]; rfl
        · rw [HBB.out]; exact q2
    · have HK := Lib.hid (And.intro k0 (And.intro k1 hbel))
      obtain ⟨z, hzz⟩ : ∃ z, nth zl i = z := ⟨_, rfl⟩
      have hnum := HI.out.2.2.2.1 i hi4
      rw [hzz] at hnum
      have hbz : Bnd z := by rw [← hzz]; exact HI.out.2.2.1 _ (nth_mem _ _ hi4)
      have hnz := (enc_len z).1
      obtain ⟨p, hp⟩ : ∃ p, st + (encL (zl.take i)).length = p := ⟨_, rfl⟩
      rw [hp] at hnum hlen2 ⊢
      have hpe : p + (enc z).length ≤ en := by
        have h1 := encL_take zl i hi4
        have h2 := encL_take_le zl (i + 1)
        have h3 := HI.out.2.2.2.2.2.1
        rw [hzz] at h1
        omega
      have hpn : p < n := by omega
      obtain ⟨q, off, hx, hq, hc⟩ := HI.out.1.at (i := p) (by rw [HI.out.2.1]; exact hpn)
      subst hx
      have hc' : wr.cell? ⟨q, off + p, none⟩ = some (.int .u8 (nth zs p)) := (hbel.cell (p := ⟨q, off + p, none⟩) (by have := HBB.out; show q < b; omega)).trans hc
      have hB64 : B64 (nth zs p) := by
        have := hnum 0 (by omega)
        rw [Nat.add_zero] at this
        rw [this.2]; exact enc_ok z _ (nth_mem _ _ (by omega))
      obtain ⟨sp, hsp⟩ : ∃ sp, nth zs p = sp := ⟨_, rfl⟩
      rw [hsp] at hc' hB64
      have hInw : In .u8 wr (some ⟨q, off, none⟩) zs := HI.out.1.under (B := b) (fun x hx => by cases hx; have := HBB.out; show q < b; omega) hbel
      have HZD := Lib.hid (zd_any (some ⟨q, off, none⟩) cap n zs p z wr HI.out.2.1 hInw (by omega) hbz hnum b (by have := HI.out.2.2.2.2.2.2; rw [HBB.out] at this; exact this.below hbel))
      have hs7 := k1.int (i := i) (by have := List.length_take (i := i) (l := zl); simp [pad5]; omega)
      have hf7 := k1.free i
      obtain ⟨pe, hpe3⟩ : ∃ pe, p + (enc z).length = pe := ⟨_, rfl⟩
      have HPZ : Hid (IsZd p z wr = fun e w' => e = .returned (.tuple #[.int .i64 z, .int .i64 pe, .bool true]) ∧ ∃ m, w' = wr.drewN m) := Lib.hid (by funext e w'; rw [← hpe3]; rfl)
      have HNP : Hid (st + (encL (zl.take (i + 1))).length = pe) := Lib.hid (by
        have h1 := encL_take zl i hi4
        rw [hzz] at h1
        omega)
      have hppe : decide (pe ≤ p) = false := decide_eq_false (by omega)
      have hi5 : ((i : Int) == 5) = false := beq_eq_false_iff_ne.2 (by omega)
      have hi5b : i < 5 := by omega
      have HHH := Lib.hid (And.intro hzz hB64)
      clear hzz hnum hbz hnz hp hsp hB64 hInw hc hpe hpe3 hlen2 hi k0 k1 hbel
      go_wp2_with (first
        | (go_at_call 27; refine (sep_no sp _ HHH.out.2.2.2).mono ?_; rintro e w' ⟨rfl, rfl⟩)
        | (go_at_call 28; refine HZD.out.mono ?_; intro e w' hzd; rw [HPZ.out] at hzd; obtain ⟨rfl, mm, rfl⟩ := hzd))
      go_roundg (zl.length - (i + 1))
      case measure => omega
      case rel =>
        have hg : (wr.drewN mm).grownBy ((wr.drewN mm).setCell ⟨b + 1, i, none⟩ (.int .i64 z)) (some (b + 1)) := gb_set (gb_refl _ _) i none _
        have k0' : Blk (wr.drewN mm) b 51 Z5 := HK.out.1
        have k1' : Blk (wr.drewN mm) (b + 1) 51 (ints .i64 (pad5 (zl.take i))) := HK.out.2.1
        have kb' : Below b w (wr.drewN mm) := HK.out.2.2.trans ⟨rfl, rfl, rfl, Nat.le_refl _, fun _ _ => rfl⟩
        have k2 := k1'.put i z
        rw [pad5_step zl i z hi4 h5 HHH.out.1] at k2
        exact ⟨i + 1, hi4, Nat.le_refl _, by rw [HNP.out], by go_num, k0'.gb hg (fun e => by have := Option.some.inj e; omega), k2, kb'.setCell (p := ⟨b + 1, i, none⟩) (Nat.le_succ _) _⟩
end Go.Proofs.YtoegmcakolidbaaDoor
