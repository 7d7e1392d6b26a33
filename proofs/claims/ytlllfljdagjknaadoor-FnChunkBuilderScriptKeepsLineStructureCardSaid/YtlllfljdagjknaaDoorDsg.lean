/-
  The law's own reader of a segment's four numbers. No statement of the seat is proved here.
-/
import Derived.Test.YtlllfljdagjknaaDoorRows
import Derived.Test.YtlllfljdagjknaaDoorSeg
import Derived.Test.YtlllfljdagjknaaDoorCq
import Derived.Test.YtlllfljdagjknaaDoorReg
import Derived.Deep.CutBlock
import Derived.Deep.DeepCutAuto
import Derived.Deep.LoopGhost
namespace Go.Proofs.YtlllfljdagjknaaDoor
open Go.RowKit
set_option linter.unusedVariables false
/-! plain: a number's digits read one by one -/
theorem val_snoc (l : List Nat) (d : Nat) : val (l ++ [d]) = val l + 32 ^ l.length * (d % 32) := by
  induction l with
  | nil => simp [val]
  | cons x l ih =>
    rw [List.cons_append, val, ih, val, List.length_cons, Nat.pow_succ]
    have : 32 * (32 ^ l.length * (d % 32)) = 32 ^ l.length * 32 * (d % 32) := by rw [← Nat.mul_assoc, Nat.mul_comm 32]
    omega
theorem val_lt (l : List Nat) : val l < 32 ^ l.length := by
  induction l with
  | nil => simp [val]
  | cons x l ih => rw [val, List.length_cons, Nat.pow_succ]; omega
theorem or_part (P d j : Nat) (hP : P < 32 ^ j) (hd : d < 32) (hj : j ≤ 6) : bits .or .i64 (P : Int) ((d * 32 ^ j : Nat) : Int) = ((P + 32 ^ j * d : Nat) : Int) := by
  have h6 : 32 ^ j ≤ 32 ^ 6 := Nat.pow_le_pow_right (by decide) hj
  have hm : d * 32 ^ j ≤ 31 * 32 ^ 6 := Nat.mul_le_mul (by omega) h6
  have e6 : (32 : Nat) ^ 6 = 1073741824 := by decide
  rw [i64_or_nat P (d * 32 ^ j) (by omega) (by omega)]
  have := Nat.two_pow_add_eq_or_of_lt (i := 5 * j) (b := P) (by rw [Nat.pow_mul]; exact hP) d
  rw [Nat.pow_mul] at this
  rw [Nat.mul_comm d, Nat.or_comm, show 32 ^ j * d ||| P = 32 ^ j * d + P from this.symm, Nat.add_comm]
theorem vlq_lt (z : Int) (h : Bnd z) : vlq z < 2147483648 := by unfold vlq; obtain ⟨h1, h2⟩ := h; split <;> omega
theorem vlq_back (z : Int) : (vlq z % 2 = 1 → z = -((vlq z / 2 : Nat) : Int)) ∧ (vlq z % 2 = 0 → z = ((vlq z / 2 : Nat) : Int)) := by unfold vlq; split <;> omega
theorem enc_nth (z : Int) (j : Nat) (h : j < (enc z).length) : ∃ d : Nat, d < 64 ∧ (dgs 7 (vlq z))[j]? = some d ∧ nth (enc z) j = ((b64at d : Nat) : Int) ∧ (dgs 7 (vlq z)).take (j + 1) = (dgs 7 (vlq z)).take j ++ [d] := by
  have hl : j < (dgs 7 (vlq z)).length := by unfold enc at h; simpa using h
  refine ⟨(dgs 7 (vlq z))[j], dgs_lt 7 _ _ (List.getElem_mem hl), by simp [hl], ?_, by rw [List.take_succ_eq_append_getElem hl]⟩
  unfold enc nth
  simp [hl]
theorem enc_cont (z : Int) (hz : Bnd z) (j d : Nat) (h : j < (enc z).length) (hd : (dgs 7 (vlq z))[j]? = some d) : 32 ≤ d ↔ j + 1 < (enc z).length := by
  have hl : (enc z).length = (dgs 7 (vlq z)).length := by unfold enc; simp
  have := dgs_cont 7 (vlq z) (by have := vlq_lt z hz; omega) j (by omega)
  rw [List.getD_eq_getElem?_getD, hd] at this
  rw [hl]; exact this
theorem new_part (P d j v : Nat) (hP : P < 32 ^ j) (hj : j ≤ 6) (hv : v = P + 32 ^ j * (d % 32)) : bits .or .i64 (P : Int) (wrap64 ((d : Int) % 32 * 2 ^ (5 * j))) = (v : Int) := by
  have h6 : 32 ^ j ≤ 32 ^ 6 := Nat.pow_le_pow_right (by decide) hj
  have hm : d % 32 * 32 ^ j ≤ 31 * 32 ^ 6 := Nat.mul_le_mul (by omega) h6
  have e6 : (32 : Nat) ^ 6 = 1073741824 := by decide
  have e0 : ((d : Int) % 32 * 2 ^ (5 * j)) = ((d % 32 * 32 ^ j : Nat) : Int) := by
    rw [show (32 : Nat) = 2 ^ 5 from rfl, ← Nat.pow_mul]; push_cast; rfl
  rw [e0, show wrap64 ((d % 32 * 32 ^ j : Nat) : Int) = ((d % 32 * 32 ^ j : Nat) : Int) by unfold wrap64; omega, or_part P (d % 32) j hP (by omega) hj, hv]
theorem and_one (V : Nat) (h : V < 2147483648) : bits .and .i64 (V : Int) 1 = ((V % 2 : Nat) : Int) := by
  have := i64_and_nat V 1 (by omega) (by omega)
  rw [Nat.and_one_is_mod] at this
  exact this
theorem fill_step (zl : List Int) (i : Nat) (z : Int) (hz : zl.length = 4) (hi : i < 4) (h : nth zl i = z) : (zl.take i ++ List.replicate (6 - i) 0).set i z = zl.take (i + 1) ++ List.replicate (6 - (i + 1)) 0 := by
  have e : 6 - i = (6 - (i + 1)) + 1 := by omega
  have hm : (zl.take i).length = i := by rw [List.length_take]; omega
  rw [e, List.replicate_succ, List.set_append_right _ _ (by omega), hm, Nat.sub_self, List.set_cons_zero, List.take_succ_eq_append_getElem (by omega), List.append_assoc, List.singleton_append, ← nth_get, h]
theorem info37 : (Tryd.prog.info? 37).map (fun i => (i.zero, i.size)) = some (some (.agg #[.int .i64 0, .int .i64 0, .int .i64 0, .int .i64 0, .int .i64 0, .int .i64 0]), 6) := by kernel_rfl
/-- the digits of z stand at p -/
def NumAt (zs : List Int) (p : Nat) (z : Int) : Prop := ∀ j, j < (enc z).length → p + j < zs.length ∧ nth zs (p + j) = nth (enc z) j
/-- what the loop over the digits knows -/
def GI (zs : List Int) (p : Nat) (z : Int) (w : World) (k : Nat) (v13 v14 v15 : Value) (wr : World) : Prop := ∃ j : Nat, j < (enc z).length ∧ (enc z).length - j ≤ k ∧ v13 = .int .i64 (p + j : Nat) ∧ v14 = .int .i64 (val ((dgs 7 (vlq z)).take j) : Nat) ∧ v15 = .int .i64 (5 * j : Nat) ∧ w = wr
/-- its end -/
def GIe (p : Nat) (z : Int) (w : World) (v13 v14 : Value) (wr : World) : Prop := v13 = .int .i64 (p + (enc z).length : Nat) ∧ v14 = .int .i64 (vlq z : Nat) ∧ w = wr
def Z6 : Array Value := #[.int .i64 0, .int .i64 0, .int .i64 0, .int .i64 0, .int .i64 0, .int .i64 0]
/-- at the number k -/
def GD (zl : List Int) (st : Nat) (w : World) (b : Nat) (k : Nat) (v12 v13 : Value) (wr : World) : Prop := ∃ (i : Nat) (S : List Int), i ≤ 4 ∧ 4 - i ≤ k ∧ v12 = .int .i64 i ∧ v13 = .int .i64 (st + ((zl.take i).flatMap enc).length : Nat) ∧ Blk wr b 37 Z6 ∧ Blk wr (b + 1) 37 Z6 ∧ Blk wr (b + 2) 37 (ints .i64 (zl.take i ++ List.replicate (6 - i) 0)) ∧ Blk wr (b + 3) 37 (ints .i64 S) ∧ S.length = 6 ∧ Below b w wr
def DSeg (zl : List Int) (w : World) (e : Ending) (w' : World) : Prop := ∃ S : List Int, S.length = 6 ∧ e = .returned (.tuple #[.agg (ints .i64 (zl ++ [0, 0])), .agg (ints .i64 S), .int .i64 4, .bool true]) ∧ Below w.heap.size w w'
set_option maxRecDepth 100000 in
set_option maxHeartbeats 4000000 in
theorem dseg_any (ao : Option Addr) (cap n : Nat) (zs zl : List Int) (st : Nat) (w : World) (hn : zs.length = n) (hin : In .u8 w ao zs) (hl : n ≤ 1073741824) (hz : zl.length = 4) (hb : ∀ z ∈ zl, Bnd z)
    (hs : ∀ i, i < 4 → NumAt zs (st + ((zl.take i).flatMap enc).length) (nth zl i)) (he : st + (zl.flatMap enc).length ≤ n) :
    Calls Tryd.prog 14 #[.slice ao n cap, .int .i64 st, .int .i64 (st + (zl.flatMap enc).length : Nat)] w (DSeg zl w) := by
  have HI := Lib.hid (And.intro hin (And.intro hn (And.intro hz (And.intro hb hs))))
  clear hin hn hz hb hs
  obtain ⟨en, hen⟩ : ∃ en, st + (zl.flatMap enc).length = en := ⟨_, rfl⟩
  rw [hen] at he ⊢
  have HEN := Lib.hid hen
  clear hen
  go_enter Tryd.func14, Tryd.ntmps14
  go_wp2_with fail
  obtain ⟨b, hb⟩ : ∃ b, w.heap.size = b := ⟨_, rfl⟩
  have hstart : GD zl st w b 4 (.int .i64 0) (.int .i64 st) ((((w.alloc (.cells Z6 37)).alloc (.cells Z6 37)).alloc (.cells Z6 37)).alloc (.cells Z6 37)) := by
    subst hb
    have k1 := (((Blk.new w 37 Z6).alloc (.cells Z6 37)).alloc (.cells Z6 37)).alloc (.cells Z6 37)
    have k2 := ((Blk.new (w.alloc (.cells Z6 37)) 37 Z6).alloc (.cells Z6 37)).alloc (.cells Z6 37)
    have k3 := (Blk.new ((w.alloc (.cells Z6 37)).alloc (.cells Z6 37)) 37 Z6).alloc (.cells Z6 37)
    have k4 := Blk.new (((w.alloc (.cells Z6 37)).alloc (.cells Z6 37)).alloc (.cells Z6 37)) 37 Z6
    rw [show (w.alloc (.cells Z6 37)).heap.size = w.heap.size + 1 by simp] at k2
    rw [show ((w.alloc (.cells Z6 37)).alloc (.cells Z6 37)).heap.size = w.heap.size + 2 by simp] at k3
    rw [show (((w.alloc (.cells Z6 37)).alloc (.cells Z6 37)).alloc (.cells Z6 37)).heap.size = w.heap.size + 3 by simp] at k4
    exact ⟨0, List.replicate 6 0, by omega, by omega, rfl, by simp, k1, k2, k3, k4, by simp, ((((Below.refl _ w).alloc (Nat.le_refl _) _).alloc (by simp) _).alloc (by simp; omega) _).alloc (by simp; omega) _⟩
  have HST := Lib.hid hstart
  have HBB := Lib.hid hb
  rw [hb]
  clear hstart hb
  go_loopg [12, 13] 4 (fun k a c wr => GD zl st w b k a c wr)
  case atStart => exact HST.out
  case round =>
    obtain ⟨i, S, hi, hk, rfl, rfl, k0, k1, k2, k3, hS, hbel⟩ := hrel
    have hlen2 : st + ((zl.take i).flatMap enc).length ≤ en := by
      have := HEN.out
      have h2 : (zl.flatMap enc) = (zl.take i).flatMap enc ++ (zl.drop i).flatMap enc := by rw [← List.flatMap_append, List.take_append_drop]
      rw [h2, List.length_append] at this
      omega
    rcases (show i = 4 ∨ i < 4 by omega) with rfl | hi4
    · have hz4 := HI.out.2.2.1
      have hp : st + ((zl.take 4).flatMap enc).length = en := by rw [List.take_of_length_le (by omega)]; exact HEN.out
      rw [hp]
      have HK := Lib.hid (And.intro k0 (And.intro k1 (And.intro k2 (And.intro k3 (And.intro hS hbel)))))
      clear k0 k1 k2 k3 hS hbel hp hlen2
      go_upto_region 25 with fail
      obtain ⟨zl', hzl'⟩ : ∃ zl', zl.take 4 ++ List.replicate (6 - 4) 0 = zl' := ⟨_, rfl⟩
      rw [hzl'] at HK
      have hzl6 : zl' = zl ++ [0, 0] := by rw [← hzl', List.take_of_length_le (by omega)]; rfl
      have HZ6 := Lib.hid hzl6
      obtain ⟨z0, z1, z2, z3, hz40⟩ : ∃ z0 z1 z2 z3, zl = [z0, z1, z2, z3] := by
        match zl, hz4 with
        | [a, b, c, d], _ => exact ⟨a, b, c, d, rfl⟩
      obtain ⟨s0, s1, s2, s3, s4, s5, hS6⟩ : ∃ s0 s1 s2 s3 s4 s5, S = [s0, s1, s2, s3, s4, s5] := by
        match S, HK.out.2.2.2.2.1 with
        | [a, b, c, d, e, f], _ => exact ⟨a, b, c, d, e, f, rfl⟩
      subst hS6
      have v := HK.out.2.2.1.cell
      have y := HK.out.2.2.2.1.cell
      rw [hzl6, hz40] at v
      have v0 := v 0
      have v1 := v 1
      have v2 := v 2
      have v3 := v 3
      have v4 := v 4
      have v5 := v 5
      have y0 := y 0
      have y1 := y 1
      have y2 := y 2
      have y3 := y 3
      have y4 := y 4
      have y5 := y 5
      have a0 : wr.cell? ⟨b, 0, none⟩ = some (.int .i64 0) := HK.out.1.cell 0
      have d0 : wr.cell? ⟨b + 1, 0, none⟩ = some (.int .i64 0) := HK.out.2.1.cell 0
      have a1 : wr.cell? ⟨b, 1, none⟩ = some (.int .i64 0) := HK.out.1.cell 1
      have d1 : wr.cell? ⟨b + 1, 1, none⟩ = some (.int .i64 0) := HK.out.2.1.cell 1
      have a2 : wr.cell? ⟨b, 2, none⟩ = some (.int .i64 0) := HK.out.1.cell 2
      have d2 : wr.cell? ⟨b + 1, 2, none⟩ = some (.int .i64 0) := HK.out.2.1.cell 2
      have a3 : wr.cell? ⟨b, 3, none⟩ = some (.int .i64 0) := HK.out.1.cell 3
      have d3 : wr.cell? ⟨b + 1, 3, none⟩ = some (.int .i64 0) := HK.out.2.1.cell 3
      have a4 : wr.cell? ⟨b, 4, none⟩ = some (.int .i64 0) := HK.out.1.cell 4
      have d4 : wr.cell? ⟨b + 1, 4, none⟩ = some (.int .i64 0) := HK.out.2.1.cell 4
      have a5 : wr.cell? ⟨b, 5, none⟩ = some (.int .i64 0) := HK.out.1.cell 5
      have d5 : wr.cell? ⟨b + 1, 5, none⟩ = some (.int .i64 0) := HK.out.2.1.cell 5
      have f0 := HK.out.1.free
      have f1 := HK.out.2.1.free
      simp [ints] at v0 v1 v2 v3 v4 v5 y0 y1 y2 y3 y4 y5
      have HZ40 := Lib.hid hz40
      clear v y hzl6 hz40 hzl'
      go_region
      all_goals
        go_wp2_with fail
        have q1 : Blk ((((((((((((wr.setCell ⟨b, 0, none⟩ (.int .i64 z0)).setCell ⟨b, 1, none⟩ (.int .i64 z1)).setCell ⟨b, 2, none⟩ (.int .i64 z2)).setCell ⟨b, 3, none⟩ (.int .i64 z3)).setCell ⟨b, 4, none⟩ (.int .i64 0)).setCell ⟨b, 5, none⟩ (.int .i64 0)).setCell ⟨b + 1, 0, none⟩ (.int .i64 s0)).setCell ⟨b + 1, 1, none⟩ (.int .i64 s1)).setCell ⟨b + 1, 2, none⟩ (.int .i64 s2)).setCell ⟨b + 1, 3, none⟩ (.int .i64 s3)).setCell ⟨b + 1, 4, none⟩ (.int .i64 s4)).setCell ⟨b + 1, 5, none⟩ (.int .i64 s5)) b 37 #[.int .i64 z0, .int .i64 z1, .int .i64 z2, .int .i64 z3, .int .i64 0, .int .i64 0] := ((((((((((((HK.out.1.set 0 (.int .i64 z0)).set 1 (.int .i64 z1)).set 2 (.int .i64 z2)).set 3 (.int .i64 z3)).set 4 (.int .i64 0)).set 5 (.int .i64 0)).gb (gb_set (gb_refl _ _) 0 none (.int .i64 s0)) (fun e => by have := Option.some.inj e; omega)).gb (gb_set (gb_refl _ _) 1 none (.int .i64 s1)) (fun e => by have := Option.some.inj e; omega)).gb (gb_set (gb_refl _ _) 2 none (.int .i64 s2)) (fun e => by have := Option.some.inj e; omega)).gb (gb_set (gb_refl _ _) 3 none (.int .i64 s3)) (fun e => by have := Option.some.inj e; omega)).gb (gb_set (gb_refl _ _) 4 none (.int .i64 s4)) (fun e => by have := Option.some.inj e; omega)).gb (gb_set (gb_refl _ _) 5 none (.int .i64 s5)) (fun e => by have := Option.some.inj e; omega))
        have q2 : Blk ((((((((((((wr.setCell ⟨b, 0, none⟩ (.int .i64 z0)).setCell ⟨b, 1, none⟩ (.int .i64 z1)).setCell ⟨b, 2, none⟩ (.int .i64 z2)).setCell ⟨b, 3, none⟩ (.int .i64 z3)).setCell ⟨b, 4, none⟩ (.int .i64 0)).setCell ⟨b, 5, none⟩ (.int .i64 0)).setCell ⟨b + 1, 0, none⟩ (.int .i64 s0)).setCell ⟨b + 1, 1, none⟩ (.int .i64 s1)).setCell ⟨b + 1, 2, none⟩ (.int .i64 s2)).setCell ⟨b + 1, 3, none⟩ (.int .i64 s3)).setCell ⟨b + 1, 4, none⟩ (.int .i64 s4)).setCell ⟨b + 1, 5, none⟩ (.int .i64 s5)) (b + 1) 37 #[.int .i64 s0, .int .i64 s1, .int .i64 s2, .int .i64 s3, .int .i64 s4, .int .i64 s5] := ((((((((((((HK.out.2.1.gb (gb_set (gb_refl _ _) 0 none (.int .i64 z0)) (fun e => by have := Option.some.inj e; omega)).gb (gb_set (gb_refl _ _) 1 none (.int .i64 z1)) (fun e => by have := Option.some.inj e; omega)).gb (gb_set (gb_refl _ _) 2 none (.int .i64 z2)) (fun e => by have := Option.some.inj e; omega)).gb (gb_set (gb_refl _ _) 3 none (.int .i64 z3)) (fun e => by have := Option.some.inj e; omega)).gb (gb_set (gb_refl _ _) 4 none (.int .i64 0)) (fun e => by have := Option.some.inj e; omega)).gb (gb_set (gb_refl _ _) 5 none (.int .i64 0)) (fun e => by have := Option.some.inj e; omega)).set 0 (.int .i64 s0)).set 1 (.int .i64 s1)).set 2 (.int .i64 s2)).set 3 (.int .i64 s3)).set 4 (.int .i64 s4)).set 5 (.int .i64 s5))
        have q3 : Below b w ((((((((((((wr.setCell ⟨b, 0, none⟩ (.int .i64 z0)).setCell ⟨b, 1, none⟩ (.int .i64 z1)).setCell ⟨b, 2, none⟩ (.int .i64 z2)).setCell ⟨b, 3, none⟩ (.int .i64 z3)).setCell ⟨b, 4, none⟩ (.int .i64 0)).setCell ⟨b, 5, none⟩ (.int .i64 0)).setCell ⟨b + 1, 0, none⟩ (.int .i64 s0)).setCell ⟨b + 1, 1, none⟩ (.int .i64 s1)).setCell ⟨b + 1, 2, none⟩ (.int .i64 s2)).setCell ⟨b + 1, 3, none⟩ (.int .i64 s3)).setCell ⟨b + 1, 4, none⟩ (.int .i64 s4)).setCell ⟨b + 1, 5, none⟩ (.int .i64 s5)) := ((((((((((((HK.out.2.2.2.2.2.setCell (p := ⟨b, 0, none⟩) (Nat.le_refl _) _).setCell (p := ⟨b, 1, none⟩) (Nat.le_refl _) _).setCell (p := ⟨b, 2, none⟩) (Nat.le_refl _) _).setCell (p := ⟨b, 3, none⟩) (Nat.le_refl _) _).setCell (p := ⟨b, 4, none⟩) (Nat.le_refl _) _).setCell (p := ⟨b, 5, none⟩) (Nat.le_refl _) _).setCell (p := ⟨b + 1, 0, none⟩) (Nat.le_succ _) _).setCell (p := ⟨b + 1, 1, none⟩) (Nat.le_succ _) _).setCell (p := ⟨b + 1, 2, none⟩) (Nat.le_succ _) _).setCell (p := ⟨b + 1, 3, none⟩) (Nat.le_succ _) _).setCell (p := ⟨b + 1, 4, none⟩) (Nat.le_succ _) _).setCell (p := ⟨b + 1, 5, none⟩) (Nat.le_succ _) _)
        obtain ⟨Wf, hWf⟩ : ∃ Wf, ((((((((((((wr.setCell ⟨b, 0, none⟩ (.int .i64 z0)).setCell ⟨b, 1, none⟩ (.int .i64 z1)).setCell ⟨b, 2, none⟩ (.int .i64 z2)).setCell ⟨b, 3, none⟩ (.int .i64 z3)).setCell ⟨b, 4, none⟩ (.int .i64 0)).setCell ⟨b, 5, none⟩ (.int .i64 0)).setCell ⟨b + 1, 0, none⟩ (.int .i64 s0)).setCell ⟨b + 1, 1, none⟩ (.int .i64 s1)).setCell ⟨b + 1, 2, none⟩ (.int .i64 s2)).setCell ⟨b + 1, 3, none⟩ (.int .i64 s3)).setCell ⟨b + 1, 4, none⟩ (.int .i64 s4)).setCell ⟨b + 1, 5, none⟩ (.int .i64 s5)) = Wf := ⟨_, rfl⟩
        rw [hWf] at q1 q2 q3 ⊢
        clear hWf
        have c0 := q1.cell 0
        have c1 := q1.cell 1
        have c2 := q1.cell 2
        have c3 := q1.cell 3
        have c4 := q1.cell 4
        have c5 := q1.cell 5
        have g0 := q2.cell 0
        have g1 := q2.cell 1
        have g2 := q2.cell 2
        have g3 := q2.cell 3
        have g4 := q2.cell 4
        have g5 := q2.cell 5
        simp at c0 c1 c2 c3 c4 c5 g0 g1 g2 g3 g4 g5
        refine bodyPost_ret (v := .tuple #[.agg #[.int .i64 z0, .int .i64 z1, .int .i64 z2, .int .i64 z3, .int .i64 0, .int .i64 0], .agg #[.int .i64 s0, .int .i64 s1, .int .i64 s2, .int .i64 s3, .int .i64 s4, .int .i64 s5], .int .i64 4, .bool true]) (by simp [results, Tryd.results14, go_sem, c0, c1, c2, c3, c4, c5, g0, g1, g2, g3, g4, g5]) rfl ⟨[s0, s1, s2, s3, s4, s5], rfl, ?_, ?_⟩
        · rw [HZ40.out]; rfl
        · rw [HBB.out]; exact q3.drew
    · have HK := Lib.hid (And.intro k0 (And.intro k1 (And.intro k3 (And.intro hS hbel))))
      have hnz : (enc (nth zl i)).length ≥ 1 := (enc_len _).1
      have hnum := HI.out.2.2.2.2 i hi4
      obtain ⟨p, hp⟩ : ∃ p, st + ((zl.take i).flatMap enc).length = p := ⟨_, rfl⟩
      rw [hp] at hnum hlen2 ⊢
      have HP := Lib.hid hp
      obtain ⟨z, hzz⟩ : ∃ z, nth zl i = z := ⟨_, rfl⟩
      rw [hzz] at hnum hnz
      have hbz : Bnd z := by rw [← hzz]; exact HI.out.2.2.2.1 _ (nth_mem _ _ (by rw [HI.out.2.2.1]; exact hi4))
      have HZ := Lib.hid (And.intro hzz (And.intro hnum hbz))
      have hpe : p < en := by
        have := HEN.out
        have h2 : (zl.flatMap enc) = (zl.take i).flatMap enc ++ (zl.drop i).flatMap enc := by rw [← List.flatMap_append, List.take_append_drop]
        have h3 : zl.drop i = zl[i]'(by rw [HI.out.2.2.1]; exact hi4) :: zl.drop (i + 1) := List.drop_eq_getElem_cons _
        have h4 := (enc_len (zl[i]'(by rw [HI.out.2.2.1]; exact hi4))).1
        rw [h2, h3, List.length_append, List.flatMap_cons, List.length_append] at this
        omega
      have hs8 := k3.int (i := i) (by omega)
      have hf8 := k3.free i
      clear hp hzz hnum hbz k0 k1 k3 hS hbel
      have hi6 : ((i : Int) == 6) = false := beq_eq_false_iff_ne.2 (by omega)
      go_upto_region 9 with fail
      have HK8 : Hid (Blk (wr.setCell ⟨b + 3, i, none⟩ (.int .i64 p)) b 37 Z6 ∧ Blk (wr.setCell ⟨b + 3, i, none⟩ (.int .i64 p)) (b + 1) 37 Z6 ∧ Blk (wr.setCell ⟨b + 3, i, none⟩ (.int .i64 p)) (b + 2) 37 (ints .i64 (zl.take i ++ List.replicate (6 - i) 0)) ∧ Blk (wr.setCell ⟨b + 3, i, none⟩ (.int .i64 p)) (b + 3) 37 (ints .i64 (S.set i p)) ∧ (S.set i (p : Int)).length = 6 ∧ Below b w (wr.setCell ⟨b + 3, i, none⟩ (.int .i64 p))) := Lib.hid (by
        obtain ⟨k0, k1, k3, hS, hbel⟩ := HK.out
        have hg : wr.grownBy (wr.setCell ⟨b + 3, i, none⟩ (.int .i64 p)) (some (b + 3)) := gb_set (gb_refl _ _) i none _
        exact ⟨k0.gb hg (fun e => by have := Option.some.inj e; omega), k1.gb hg (fun e => by have := Option.some.inj e; omega), k2.gb hg (fun e => by have := Option.some.inj e; omega), k3.put i p, by rw [List.length_set]; exact hS, below_gb hbel hg (by have := k0.lt; omega) (by omega)⟩)
      have HI8 : Hid (In .u8 (wr.setCell ⟨b + 3, i, none⟩ (.int .i64 p)) ao zs) := Lib.hid (HI.out.1.under (B := b) (fun x hx => by
        rcases HI.out.1 with h | ⟨q, off, h, hq, _⟩
        · exfalso
          have := (HZ.out.2.1 0 (by omega)).1
          rw [h] at this; simp at this
        · rw [h] at hx; cases hx; have := HBB.out; show q < b; omega) HK8.out.2.2.2.2.2)
      obtain ⟨w8, hw8⟩ : ∃ w8, wr.setCell ⟨b + 3, i, none⟩ (.int .i64 p) = w8 := ⟨_, rfl⟩
      have hw8' : wr.setCell ⟨b + 1 + 1 + 1, i, none⟩ (.int .i64 p) = w8 := hw8
      rw [hw8] at HK8 HI8
      rw [hw8']
      clear hw8 hw8' k2 hs8 hf8
      have hpl : p + (enc z).length ≤ en := by
        have := HEN.out
        have h2 : (zl.flatMap enc) = (zl.take i).flatMap enc ++ (zl.drop i).flatMap enc := by rw [← List.flatMap_append, List.take_append_drop]
        have h3 : zl.drop i = zl[i]'(by rw [HI.out.2.2.1]; exact hi4) :: zl.drop (i + 1) := List.drop_eq_getElem_cons _
        have h4 : zl[i]'(by rw [HI.out.2.2.1]; exact hi4) = z := by rw [← nth_get]; exact HZ.out.1
        rw [h2, h3, List.length_append, List.flatMap_cons, List.length_append, h4] at this
        have := HP.out
        omega
      have hel := (enc_len z).2
      go_upto_block 2 with fail
      go_cut [13, 14] (fun x y wx => GIe p z w8 x y wx)
      case first =>
        go_wp2_with fail
        go_loopg [13, 14, 15] ((enc z).length) (fun k a b' c wx => GI zs p z w8 k a b' c wx)
        case atStart => exact ⟨0, by omega, Nat.le_refl _, rfl, rfl, rfl, rfl⟩
        case round =>
          obtain ⟨j, hj, hjk, rfl, rfl, rfl, hwx⟩ := hrel
          subst hwx
          obtain ⟨d, hd, hdj, hnd, htk⟩ := enc_nth z j hj
          have hco := enc_cont z HZ.out.2.2 j d hj hdj
          obtain ⟨q, off, hx, hq, hc⟩ := HI8.out.at (i := p + j) (HZ.out.2.1 j hj).1
          subst hx
          rw [(HZ.out.2.1 j hj).2, hnd] at hc
          have hpj : p + j < n := by have := (HZ.out.2.1 j hj).1; have := HI.out.2.1; omega
          obtain ⟨P, hP⟩ : ∃ P, val ((dgs 7 (vlq z)).take j) = P := ⟨_, rfl⟩
          have hPl : P < 32 ^ j := by rw [← hP]; have := val_lt ((dgs 7 (vlq z)).take j); rwa [List.length_take, Nat.min_eq_left (by unfold enc at hj; simp at hj; omega)] at this
          rw [hP]
          have HPP := Lib.hid (And.intro hP (And.intro htk (And.intro hdj hnd)))
          have HNW : Hid (bits .or .i64 (P : Int) (wrap64 ((d : Int) % 32 * 2 ^ (5 * j))) = ((val ((dgs 7 (vlq z)).take (j + 1)) : Nat) : Int)) := Lib.hid (new_part P d j _ hPl (by omega) (by
            rw [htk, val_snoc, hP, List.length_take, Nat.min_eq_left (by unfold enc at hj; simp at hj; omega)]))
          have ha31 := and31 d (by omega)
          have ha32 := and32_i d hd
          have hbb := bi_b64 d hd
          have hb64 := b64_lt d hd
          obtain ⟨cb, hcb⟩ : ∃ cb, b64at d = cb := ⟨_, rfl⟩
          rw [hcb] at hc hbb hb64
          have HBI := Lib.hid hbb
          clear hP hdj hnd htk hcb hbb hPl
          obtain ⟨pj, hpj2⟩ : ∃ pj, p + j = pj := ⟨_, rfl⟩
          rw [hpj2] at hc hpj ⊢
          have hpe2 : pj < en := by omega
          have HPJ := Lib.hid hpj2
          clear hpj2
          have hj5 : (j : Int) ≤ 6 := by omega
          rcases (show d < 32 ∨ 32 ≤ d by omega) with hdd | hdd
          · rw [if_neg (by omega)] at ha32
            have hje : j + 1 = (enc z).length := by
              rcases Nat.lt_or_ge (j + 1) (enc z).length with h | h
              · have := hco.2 h; omega
              · omega
            have HJ : Hid (val ((dgs 7 (vlq z)).take (j + 1)) = vlq z ∧ (pj + 1 = p + (enc z).length)) := Lib.hid ⟨by
              have hl : (enc z).length = (dgs 7 (vlq z)).length := by unfold enc; simp
              rw [List.take_of_length_le (by omega), dgs_val 7 _ (by have := vlq_lt z HZ.out.2.2; omega)], by have := HPJ.out; omega⟩
            clear hco
            go_wp2_with (go_at_call 18; refine (bi_any (cb : Int) _ (by omega) (by omega)).mono ?_; rintro e w' ⟨rfl, rfl⟩; rw [HBI.out])
            go_meet
            exact ⟨by rw [← HJ.out.2]; go_num, by rw [HNW.out, HJ.out.1], rfl⟩
          · rw [if_pos hdd] at ha32
            have hje := hco.1 hdd
            obtain ⟨k', hk1, hk2⟩ : ∃ k', k' + 1 ≤ (enc z).length - j ∧ (enc z).length - (j + 1) ≤ k' := ⟨(enc z).length - (j + 1), by omega, Nat.le_refl _⟩
            clear hco
            go_wp2_with (go_at_call 18; refine (bi_any (cb : Int) _ (by omega) (by omega)).mono ?_; rintro e w' ⟨rfl, rfl⟩; rw [HBI.out])
            go_roundg k'
            case measure => exact Nat.lt_of_lt_of_le (Nat.lt_of_succ_le hk1) hjk
            case rel => exact ⟨j + 1, hje, hk2, by rw [← HPJ.out]; go_num, by rw [HNW.out], by go_num, rfl⟩
      case rest =>
        obtain ⟨rfl, rfl, hwx⟩ := hcut
        have hwx1 := hwx.symm
        subst hwx1
        clear hwx
        obtain ⟨V, hV⟩ : ∃ V, vlq z = V := ⟨_, rfl⟩
        have hVb := vlq_lt z HZ.out.2.2
        have hvb := vlq_back z
        rw [hV] at hVb hvb ⊢
        have hand := and_one V hVb
        have HV := Lib.hid hvb
        clear hV hvb
        obtain ⟨pe, hpe3⟩ : ∃ pe, p + (enc z).length = pe := ⟨_, rfl⟩
        rw [hpe3] at hpl ⊢
        have HPE := Lib.hid hpe3
        have hlz := HI.out.2.2.1
        have hli : (zl.take i ++ List.replicate (6 - i) (0 : Int)).length = 6 := by rw [List.length_append, List.length_take, List.length_replicate, hlz]; omega
        have hs7 := HK8.out.2.2.1.int (i := i) (by rw [hli]; omega)
        have hf7 := HK8.out.2.2.1.free i
        have HNP : Hid (st + ((zl.take (i + 1)).flatMap enc).length = pe) := Lib.hid (by
          have h1 : zl.take (i + 1) = zl.take i ++ [z] := by rw [List.take_succ_eq_append_getElem (by omega), ← nth_get, HZ.out.1]
          rw [h1, List.flatMap_append, List.length_append, List.flatMap_cons, List.flatMap_nil, List.append_nil]
          have := HP.out
          have := HPE.out
          omega)
        have hnew : GD zl st w b (4 - (i + 1)) (.int .i64 ((i : Int) + 1)) (.int .i64 pe) (wc.setCell ⟨b + 2, i, none⟩ (.int .i64 z)) := by
          obtain ⟨k0, k1, k2, k3, hS, hbel⟩ := HK8.out
          have hg : wc.grownBy (wc.setCell ⟨b + 2, i, none⟩ (.int .i64 z)) (some (b + 2)) := gb_set (gb_refl _ _) i none _
          refine ⟨i + 1, S.set i p, by omega, Nat.le_refl _, by go_num, by rw [HNP.out], k0.gb hg (fun e => by have := Option.some.inj e; omega), k1.gb hg (fun e => by have := Option.some.inj e; omega), ?_, k3.gb hg (fun e => by have := Option.some.inj e; omega), hS, below_gb hbel hg (by have := k0.lt; omega) (by omega)⟩
          have := k2.put i z
          rwa [fill_step zl i z hlz hi4 HZ.out.1] at this
        have HNEW := Lib.hid hnew
        clear hnew hpe3 hli hlz
        rcases (show V % 2 = 0 ∨ V % 2 = 1 by omega) with hm | hm
        · have hzv : z = (V : Int) / 2 := by have := HV.out.2 hm; omega
          rw [hm] at hand
          have HZV := Lib.hid hzv
          clear hzv hm
          go_wp2_with fail
          go_roundg (4 - (i + 1))
          case measure => omega
          case rel => have := HNEW.out; rw [HZV.out] at this; exact this
        · have hzv : z = -((V : Int) / 2) := by have := HV.out.1 hm; omega
          rw [hm] at hand
          have HZV := Lib.hid hzv
          clear hzv hm
          go_wp2_with fail
          go_roundg (4 - (i + 1))
          case measure => omega
          case rel => have := HNEW.out; rw [HZV.out] at this; exact this
end Go.Proofs.YtlllfljdagjknaaDoor
