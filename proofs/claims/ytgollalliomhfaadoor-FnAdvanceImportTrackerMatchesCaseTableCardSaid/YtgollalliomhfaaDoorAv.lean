/-
  One step of import resolution, walked. No statement of the seat is proved here.
-/
import Derived.Test.YtgollalliomhfaaDoorBa
import Derived.Deep.CutBlock
import Derived.Lib.Strings
namespace Go.Proofs.YtgollalliomhfaaDoor
open Go.Maps Go.ChangeShapes Go.WideShapes Go.RowKit
set_option linter.unusedVariables false
set_option linter.unusedSimpArgs false

theorem f2_2 (P O : Nat) (ld : Int) : (lf2 P O ld)[2]? = some (.iface 42 (.pointer (some ⟨P, 0, none⟩))) := by kernel_rfl
theorem f2_18 (P O : Nat) (ld : Int) : (lf2 P O ld)[18]? = some (.int .u8 ld) := by kernel_rfl
theorem f2_26 (P O : Nat) (ld : Int) : (lf2 P O ld)[26]? = some (.iface 42 (.pointer (some ⟨O, 0, none⟩))) := by kernel_rfl
/-- the variable 'InvalidRef' as its initialiser leaves it -/
def Iv (w : World) : Prop := w.cell? ⟨0, 0, none⟩ = some (.int .u32 4294967295) ∧ w.cell? ⟨0, 1, none⟩ = some (.int .u32 4294967295)
theorem Iv.grow {w w' : World} (h : Iv w) (hg : w.grownBy w' none) : Iv w' := by
  have hl : 0 < w.heap.size := World.block_lt_of_cell? w _ h.1
  exact ⟨(World.cell?_of_block (w := w) (hg.block 0 hl (by simp))).trans h.1, (World.cell?_of_block (w := w) (hg.block 0 hl (by simp))).trans h.2⟩
/-- an import step's whole world -/
structure Lw (w : World) (C F P R M1 O M2 n : Nat) (ts : List ByteArray) (so : Option Nat) (a : ByteArray) (star ex rv lazy : Bool) (kl : Int) (ur um : Bool) (kd ld : Int) : Prop where
  c : ∃ cs, Blk w C 192 cs ∧ cs[10]? = some (.slice (some ⟨F, 0, none⟩) 2 2)
  f : Blk w F 125 (lf2 P O ld)
  i : Ip w P R M1 a star ex rv
  o : Op w O M2 n ts so lazy kl ur um kd
  v : Iv w
section
variable {w w' : World} {C F P R M1 O M2 n : Nat} {ts : List ByteArray} {so : Option Nat} {a : ByteArray} {star ex rv lazy : Bool} {kl : Int} {ur um : Bool} {kd ld : Int}
theorem Lw.grow (h : Lw w C F P R M1 O M2 n ts so a star ex rv lazy kl ur um kd ld) (hg : w.grownBy w' none) : Lw w' C F P R M1 O M2 n ts so a star ex rv lazy kl ur um kd ld := by
  obtain ⟨cs, h1, h2⟩ := h.c
  exact ⟨⟨cs, h1.gb hg (by simp), h2⟩, h.f.gb hg (by simp), h.i.grow hg, h.o.grow hg, h.v.grow hg⟩
theorem Lw.cC (h : Lw w C F P R M1 O M2 n ts so a star ex rv lazy kl ur um kd ld) : w.cell? ⟨C, 10, none⟩ = some (.slice (some ⟨F, 0, none⟩) 2 2) ∧ C < w.heap.size := by
  obtain ⟨cs, h1, h2⟩ := h.c
  exact ⟨(h1.cell 10).trans h2, h1.lt⟩
theorem Lw.cF (h : Lw w C F P R M1 O M2 n ts so a star ex rv lazy kl ur um kd ld) : w.cell? ⟨F, 2, none⟩ = some (.iface 42 (.pointer (some ⟨P, 0, none⟩))) ∧ w.cell? ⟨F, 18, none⟩ = some (.int .u8 ld) ∧ w.cell? ⟨F, 26, none⟩ = some (.iface 42 (.pointer (some ⟨O, 0, none⟩))) ∧ F < w.heap.size :=
  ⟨(h.f.cell 2).trans (f2_2 _ _ _), (h.f.cell 18).trans (f2_18 _ _ _), (h.f.cell 26).trans (f2_26 _ _ _), h.f.lt⟩
theorem Lw.cP (h : Lw w C F P R M1 O M2 n ts so a star ex rv lazy kl ur um kd ld) : w.cell? ⟨P, 35, none⟩ = some (.slice (some ⟨R, 0, none⟩) 1 1) ∧ w.cell? ⟨P, 36, none⟩ = some (.map (some M1)) ∧ w.cell? ⟨R, 10, none⟩ = some (.int .u32 (rvI rv)) ∧ P < w.heap.size ∧ R < w.heap.size := by
  obtain ⟨cs, h1, h2, h3⟩ := h.i.p
  obtain ⟨ds, k1, k2⟩ := h.i.r
  exact ⟨(h1.cell 35).trans h2, (h1.cell 36).trans h3, (k1.cell 10).trans k2, h1.lt, k1.lt⟩
theorem Lw.cO (h : Lw w C F P R M1 O M2 n ts so a star ex rv lazy kl ur um kd ld) : w.cell? ⟨O, 2, none⟩ = some (.map (some M2)) ∧ w.cell? ⟨O, 3, none⟩ = some (starP so) ∧ w.cell? ⟨O, 43, none⟩ = some (.int .i32 kl) ∧ w.cell? ⟨O, 48, none⟩ = some (.int .u32 1) ∧ w.cell? ⟨O, 49, none⟩ = some (.int .u32 1073741824) ∧
    w.cell? ⟨O, 59, none⟩ = some (.bool lazy) ∧ w.cell? ⟨O, 60, none⟩ = some (.bool ur) ∧ w.cell? ⟨O, 61, none⟩ = some (.bool um) ∧ w.cell? ⟨O, 62, none⟩ = some (.int .u8 kd) ∧ O < w.heap.size := by
  obtain ⟨cs, h1, h2⟩ := h.o.o
  exact ⟨(h1.cell 2).trans h2.c2, (h1.cell 3).trans h2.c3, (h1.cell 43).trans h2.c43, (h1.cell 48).trans h2.c48, (h1.cell 49).trans h2.c49, (h1.cell 59).trans h2.c59, (h1.cell 60).trans h2.c60, (h1.cell 61).trans h2.c61, (h1.cell 62).trans h2.c62, h1.lt⟩
end
/-- the flags' test -/
def c2 (star lazy : Bool) (kl : Int) (a : ByteArray) (ur um : Bool) : Bool := !star && (!lazy && (kl == 0 && (!(a == (⟨#[100, 101, 102, 97, 117, 108, 116]⟩ : ByteArray)) && (!ur && !um))))
/-- the row of the table -/
def cls (star ex rv lazy : Bool) (kl : Int) (a : ByteArray) (ur um : Bool) (kd : Int) (hs lj tx : Bool) : Nat :=
  if rv = false then 0 else if c2 star lazy kl a ur um = true then 1 else if kd = 1 then 2 else if (star && hs) = true then 3 else if lj = true then 4 else if kd = 3 then 5 else if (tx && ex) = true then 6 else 7
/-- the table: source, place, ref, status, list -/
def tab (k : Nat) (j : Int) : (Int × Int × Int × Int) × Int × List Int :=
  match k with
  | 0 => ((0, 0, 0, 0), 6, [])
  | 1 => ((1, 0, 4294967295, 4294967295), 4, [])
  | 2 => ((1, 0, 4294967295, 4294967295), 2, [])
  | 3 => ((3, 99, 3, 77), 1, [4, 6])
  | 4 => ((j + 5, j + 1, 1, j), 1, [j + 7])
  | 5 => ((1, 0, 1, 1073741824), 3, [])
  | 6 => ((0, 0, 0, 0), 7, [])
  | _ => ((1, 0, 0, 0), 0, [])
def ims : List Int → List Value | [] => [] | s :: r => [.slice none 0 0, .int .i32 0, .int .u32 0, .int .u32 0, .int .u32 s] ++ ims r
/-- a list of import data -/
def Am (w : World) (v : Value) (ss : List Int) : Prop := (ss = [] ∧ v = .slice none 0 0) ∨ ∃ A, v = .slice (some ⟨A, 0, none⟩) ss.length ss.length ∧ Blk w A 40 (ims ss).toArray ∧ ss ≠ []
def Rs (k : Nat) (j : Int) (e : Ending) (w' : World) : Prop :=
  ∃ av, e = .returned (.tuple #[.agg #[.int .u32 (tab k j).1.1, .int .i32 (tab k j).1.2.1, .int .u32 (tab k j).1.2.2.1, .int .u32 (tab k j).1.2.2.2], .int .u8 (tab k j).2.1, av]) ∧ Am w' av (tab k j).2.2
theorem ta42 (p : Nat) (w : World) : (Instr.typeAssert (.iface 42 (.pointer (some ⟨p, 0, none⟩))) 110 42 false).run Tryd.prog w = .ok (.pointer (some ⟨p, 0, none⟩)) w := by kernel_rfl
theorem gb_drewN (w : World) (d : Nat) : w.grownBy (w.drewN d) none := ⟨rfl, rfl, rfl, Nat.le_refl _, fun _ _ _ => rfl⟩
noncomputable def zni : Array Value := cellsOf ((zeroValue 87).run Tryd.prog default)
theorem zero87 (w : World) : (zeroValue 87).run Tryd.prog w = .ok (.agg zni) w := by kernel_rfl
set_option maxRecDepth 100000 in
theorem look75 {w : World} {P R M1 : Nat} {a : ByteArray} {star ex rv : Bool} (h : Ip w P R M1 a star ex rv) : (Instr.lookup 75 (.map (some M1)) (.agg #[.int .u32 0, .int .u32 0]) false).run Tryd.prog w = .ok (.agg (niC a star ex)) w := by
  obtain ⟨v, hr, hv⟩ := Mv.look1 h.m keyed31 Tryd.underlying75 (zero87 w) keyOf_0
  rw [atKey_put_same isMap_empty kl0] at hv
  cases hv
  exact hr
/-- the step's own blocks -/
def Tb (w : World) (T : Nat) : Prop := Blk w T 194 #[.int .u32 0, .int .i32 0, .int .u32 0, .int .u32 0] ∧ Blk w (T + 1) 194 #[.int .u32 0, .int .i32 0, .int .u32 0, .int .u32 0]
theorem Tb.grow {w w' : World} {T : Nat} (h : Tb w T) (hg : w.grownBy w' none) : Tb w' T := ⟨h.1.gb hg (by simp), h.2.gb hg (by simp)⟩
theorem info194 (a b c d : Value) : (Tryd.prog.info? 194).map (·.size) = some (#[a, b, c, d] : Array Value).size := by kernel_rfl
theorem res12 (tmps : Array Value) (w : World) (g : Nat) (a b c d x y : Value) (hp : tmps.getD 4 undef = .pointer (some ⟨g, 0, none⟩)) (h5 : tmps.getD 5 undef = x) (h6 : tmps.getD 6 undef = y) (hg : Blk w g 194 #[a, b, c, d]) : (results Tryd.f12 tmps).run Tryd.prog w = .ok (.tuple #[.agg #[a, b, c, d], x, y]) w := by
  have hp' : tmps[4]?.getD undef = .pointer (some ⟨g, 0, none⟩) := by simpa using hp
  have h5' : tmps[5]?.getD undef = x := by simpa using h5
  have h6' : tmps[6]?.getD undef = y := by simpa using h6
  simp [results, Tryd.results12, hp', h5', h6', asAddr, run_loadVar_row w g 194 194 #[a, b, c, d] (0, 0) _ hg Tryd.underlying194 rfl (info194 a b c d)]
theorem geti1 (w : World) : Calls Tryd.prog 14 #[.agg #[.int .u32 4294967294]] w fun e w' => e = .returned (.int .u32 1) ∧ w.grownBy w' none := by
  have := geti_any 1 (by omega) (by omega) w
  simpa using this
/-- the result's cell, filled -/
def put4 (w : World) (T : Nat) (s l r1 r2 : Int) : World := (((w.setCell ⟨T + 1, 0, none⟩ (.int .u32 s)).setCell ⟨T + 1, 1, none⟩ (.int .i32 l)).setCell ⟨T + 1, 2, none⟩ (.int .u32 r1)).setCell ⟨T + 1, 3, none⟩ (.int .u32 r2)
theorem put4_blk {w : World} {T : Nat} (h : Tb w T) (s l r1 r2 : Int) : Blk (put4 w T s l r1 r2) (T + 1) 194 #[.int .u32 s, .int .i32 l, .int .u32 r1, .int .u32 r2] := by
  have := (((h.2.set 0 (.int .u32 s)).set 1 (.int .i32 l)).set 2 (.int .u32 r1)).set 3 (.int .u32 r2)
  simp at this
  exact this
theorem put4_gb (w : World) (T : Nat) (s l r1 r2 : Int) : w.grownBy (put4 w T s l r1 r2) (some (T + 1)) := gb_set (gb_set (gb_set (gb_set (gb_refl _ _) _ _ _) _ _ _) _ _ _) _ _ _
theorem bytes_beq' (a b : ByteArray) : (a == b) = true ↔ a = b := by
  cases a with | mk x => cases b with | mk y => rw [ByteArray.mk.injEq]; exact beq_iff_eq (a := x) (b := y)
theorem dflt (a : ByteArray) : (a.toList == [100, 101, 102, 97, 117, 108, 116]) = (a == (⟨#[100, 101, 102, 97, 117, 108, 116]⟩ : ByteArray)) := by
  rw [Bool.eq_iff_iff, bytes_beq', Lib.toList_data]
  cases a with | mk d =>
  rw [ByteArray.mk.injEq, beq_iff_eq, ← Array.toList_inj]
def zed : Array Value := #[.slice none 0 0, .int .u32 0, .int .u32 0, .int .i32 0, .int .u32 0]
theorem zero103 (w : World) : (zeroValue 103).run Tryd.prog w = .ok (.agg zed) w := by kernel_rfl
theorem look45 {w : World} {M2 B n : Nat} {ts : List ByteArray} (h : Rx w M2 B n ts) (a : ByteArray) (ha : a.size ≤ maxLen) : (Instr.lookup 45 (.map (some M2)) (.string a) true).run Tryd.prog w = .ok (.tuple #[match lastS ts a n with | some j => ed B j | none => .agg zed, .bool (lastS ts a n).isSome]) w := by
  obtain ⟨D, h1, h2⟩ := h.m
  obtain ⟨v, hr, hv⟩ := Mv.look h1 (string_keyed Tryd.underlying9) Tryd.underlying45 (zero103 w) (keyOf_ks Tryd.underlying9 a ha)
  rw [h2.has a] at hr
  cases hj : lastS ts a n with
  | none =>
    rw [hj] at hr
    have hh := h2.has a
    rw [hj] at hh
    rw [atKey_of_not_has hh] at hv
    cases hv
    exact hr
  | some j =>
    rw [hj] at hr
    rw [h2.at_ a j hj] at hv
    cases hv
    exact hr
set_option maxHeartbeats 4000000 in
set_option maxRecDepth 100000 in
theorem adv_any (C F P R M1 O M2 n : Nat) (ts : List ByteArray) (so : Option Nat) (a : ByteArray) (star ex rv lazy : Bool) (kl : Int) (ur um : Bool) (kd : Int) (tx : Bool) (has : a.size ≤ maxLen) (w : World) (hw : Lw w C F P R M1 O M2 n ts so a star ex rv lazy kl ur um kd (ldI tx)) :
    Calls Tryd.prog 12 #[.pointer (some ⟨C, 0, none⟩), .agg #[.int .u32 0, .int .i32 0, .int .u32 0, .int .u32 0]] w fun e w' => Rs (cls star ex rv lazy kl a ur um kd so.isSome (lastS ts a n).isSome tx) (((lastS ts a n).getD 0 : Nat) : Int) e w' ∧ w.grownBy w' none := by
  obtain ⟨T, hT⟩ : ∃ T, w.heap.size = T := ⟨_, rfl⟩
  have hz : (zeroValue 194).run Tryd.prog (w.alloc (.cells #[.int .u32 0, .int .i32 0, .int .u32 0, .int .u32 0] 194)) = .ok (.agg #[.int .u32 0, .int .i32 0, .int .u32 0, .int .u32 0]) (w.alloc (.cells #[.int .u32 0, .int .i32 0, .int .u32 0, .int .u32 0] 194)) := by kernel_rfl
  have HW := Lib.hid hw
  clear hw
  go_enter Tryd.func12, Tryd.ntmps12
  go_upto_region 1 with fail
  clear hz
  obtain ⟨w1, hw1⟩ : ∃ w1, ((w.alloc (.cells #[.int .u32 0, .int .i32 0, .int .u32 0, .int .u32 0] 194)).alloc (.cells #[.int .u32 0, .int .i32 0, .int .u32 0, .int .u32 0] 194)) = w1 := ⟨_, rfl⟩
  have H1 : Hid (Lw w1 C F P R M1 O M2 n ts so a star ex rv lazy kl ur um kd (ldI tx) ∧ Tb w1 T ∧ w.grownBy w1 none) := Lib.hid (by
    have hg : w.grownBy w1 none := by rw [← hw1]; exact gb_alloc (gb_alloc (gb_refl _ _) _) _
    refine ⟨HW.out.grow hg, ⟨?_, ?_⟩, hg⟩
    · rw [← hw1, ← hT]; exact (Blk.new _ _ _).alloc _
    · have := Blk.new (w.alloc (.cells #[.int .u32 0, .int .i32 0, .int .u32 0, .int .u32 0] 194)) 194 #[.int .u32 0, .int .i32 0, .int .u32 0, .int .u32 0]
      rw [show (w.alloc (.cells #[.int .u32 0, .int .i32 0, .int .u32 0, .int .u32 0] 194)).heap.size = w.heap.size + 1 by simp, hT, hw1] at this
      exact this)
  rw [hw1]
  have HT := Lib.hid hT
  clear hw1 hT HW
  obtain ⟨cC, lC⟩ := H1.out.1.cC
  have t0 : w1.cell? ⟨T, 0, none⟩ = some (.int .u32 0) := H1.out.2.1.1.cell 0
  have lT := H1.out.2.1.1.lt
  go_quiet (fail)
  have H2 : Hid (Lw (w1.drewN nq) C F P R M1 O M2 n ts so a star ex rv lazy kl ur um kd (ldI tx) ∧ Tb (w1.drewN nq) T ∧ w.grownBy (w1.drewN nq) none) := Lib.hid ⟨H1.out.1.grow (gb_drewN _ _), H1.out.2.1.grow (gb_drewN _ _), gb_trans H1.out.2.2 (gb_drewN _ _)⟩
  clear H1 cC lC t0 lT
  generalize w1.drewN nq = w2 at H2 ⊢
  obtain ⟨cF, _, _, lF⟩ := H2.out.1.cF
  obtain ⟨cP1, cP2, cR, lP, lR⟩ := H2.out.1.cP
  have hta := ta42 P w2
  go_upto_region 3 with fail
  clear hta
  obtain ⟨B, hB⟩ : ∃ B, w2.heap.size = B := ⟨_, rfl⟩
  have hlk := look75 (H2.out.1.grow (gb_drewN w2 1)).i
  rw [← World.drew_is_drewN] at hlk
  simp only [niC] at hlk
  have t2 : w2.drew.cell? ⟨T, 2, none⟩ = some (.int .u32 0) := H2.out.2.1.1.cell 2
  have t3 : w2.drew.cell? ⟨T, 2 + 1, none⟩ = some (.int .u32 0) := H2.out.2.1.1.cell 3
  have p2 : w2.drew.cell? ⟨P, 36, none⟩ = some (.map (some M1)) := cP2
  have lT := H2.out.2.1.1.lt
  obtain ⟨wa, hwa⟩ : ∃ wa, w2.alloc (.cells #[.string ⟨#[]⟩, .slice none 0 0, .int .i32 0, .int .u32 0, .int .u32 0, .int .u32 0, .bool false, .bool false] 87) = wa := ⟨_, rfl⟩
  have hga : w2.grownBy wa none := by rw [← hwa]; exact gb_alloc (gb_refl _ _) _
  have hlk2 := look75 ((H2.out.1.grow hga).grow (gb_drewN wa 1)).i
  rw [← World.drew_is_drewN] at hlk2
  simp only [niC] at hlk2
  have q2 : wa.drew.cell? ⟨T, 2, none⟩ = some (.int .u32 0) := (H2.out.2.1.grow hga).1.cell 2
  have q3 : wa.drew.cell? ⟨T, 2 + 1, none⟩ = some (.int .u32 0) := (H2.out.2.1.grow hga).1.cell 3
  have s2 : wa.drew.cell? ⟨P, 36, none⟩ = some (.map (some M1)) := (H2.out.1.grow hga).cP.2.1
  rw [← hwa] at hlk2 q2 q3 s2
  clear cP2 cF hga hwa
  go_cut [9] (fun x wc => x = .pointer (some ⟨B, 0, none⟩) ∧ Hid (Lw wc C F P R M1 O M2 n ts so a star ex rv lazy kl ur um kd (ldI tx) ∧ Tb wc T ∧ Blk wc B 87 (niC a star ex) ∧ w.grownBy wc none))
  case first =>
    go_region
    all_goals
      go_wp2_with fail
      go_meet
      have hb := Blk.new w2 87 (niC a star ex)
      have hg := gb_drew (gb_alloc (gb_refl w2 none) (.cells (niC a star ex) 87))
      rw [hB] at hb
      exact ⟨rfl, Lib.hid ⟨H2.out.1.grow hg, H2.out.2.1.grow hg, hb.drew, gb_trans H2.out.2.2 hg⟩⟩
  case rest =>
    obtain ⟨rfl, H3⟩ := hcut
    obtain ⟨w3, rfl⟩ : ∃ w3 : World, w3 = wc := ⟨_, rfl⟩
    clear hlk hlk2 q2 q3 s2 t2 t3 p2 hB H2
    obtain ⟨cP1, cP2, cR, lP, lR⟩ := H3.out.1.cP
    have n5 : w3.cell? ⟨B, 5, none⟩ = some (.int .u32 0) := H3.out.2.2.1.cell 5
    have lB := H3.out.2.2.1.lt
    go_upto_region 4 with fail
    go_quiet (fail)
    have H4 : Hid (Lw (w3.drewN nq) C F P R M1 O M2 n ts so a star ex rv lazy kl ur um kd (ldI tx) ∧ Tb (w3.drewN nq) T ∧ Blk (w3.drewN nq) B 87 (niC a star ex) ∧ w.grownBy (w3.drewN nq) none) := Lib.hid ⟨H3.out.1.grow (gb_drewN _ _), H3.out.2.1.grow (gb_drewN _ _), H3.out.2.2.1.gb (gb_drewN _ _) (by simp), gb_trans H3.out.2.2.2 (gb_drewN _ _)⟩
    clear H3 cP1 cP2 cR lP lR n5 lB
    generalize w3.drewN nq = w4 at H4 ⊢
    obtain ⟨cP1, cP2, cR, lP, lR⟩ := H4.out.1.cP
    cases rv with
    | false =>
      as_aux_lemma =>
        have cR' : w4.cell? ⟨R, 10, none⟩ = some (.int .u32 0) := cR
        clear cR
        go_upto_if 51 with (go_at_call 13; refine (valid_any _ _).mono ?_; rintro e w5 ⟨rfl, hg5⟩; have H5 : Hid (Tb w5 T ∧ w.grownBy w5 none) := Lib.hid ⟨H4.out.2.1.grow hg5, gb_trans H4.out.2.2.2 hg5⟩; clear hg5)
        have t1 := H5.out.1.2
        have f0 := t1.free 0
        have f1 := t1.free 1
        have f2 := t1.free 2
        have f3 := t1.free 3
        have k0 : w5.cell? ⟨T + 1, 0, none⟩ = some (.int .u32 0) := t1.cell 0
        have k1 : w5.cell? ⟨T + 1, 1, none⟩ = some (.int .i32 0) := t1.cell 1
        have k2 : w5.cell? ⟨T + 1, 2, none⟩ = some (.int .u32 0) := t1.cell 2
        have k3 : w5.cell? ⟨T + 1, 3, none⟩ = some (.int .u32 0) := t1.cell 3
        have l1 := t1.lt
        clear t1
        go_wp2_with fail
        refine bodyPost_ret (v := .tuple #[.agg #[.int .u32 0, .int .i32 0, .int .u32 0, .int .u32 0], .int .u8 6, .slice none 0 0]) (res12 _ _ (T + 1) _ _ _ _ _ _ (by rfl) (by rfl) (by rfl) (put4_blk H5.out.1 0 0 0 0)) rfl ⟨?_, gb_new (gb_trans (gb_none H5.out.2) (put4_gb w5 T 0 0 0 0)) (by have := HT.out; omega)⟩
        rw [show cls star ex false lazy kl a ur um kd so.isSome (lastS ts a n).isSome tx = 0 by simp [cls]]
        exact ⟨_, rfl, .inl ⟨rfl, rfl⟩⟩
    | true =>
      have cR' : w4.cell? ⟨R, 10, none⟩ = some (.int .u32 4294967294) := cR
      clear cR
      go_upto_if 51 with (go_at_call 13; refine (valid_any _ _).mono ?_; rintro e w5 ⟨rfl, hg5⟩; have H5 : Hid (Lw w5 C F P R M1 O M2 n ts so a star ex true lazy kl ur um kd (ldI tx) ∧ Tb w5 T ∧ Blk w5 B 87 (niC a star ex) ∧ w.grownBy w5 none) := Lib.hid ⟨H4.out.1.grow hg5, H4.out.2.1.grow hg5, H4.out.2.2.1.gb hg5 (by simp), gb_trans H4.out.2.2.2 hg5⟩; clear hg5)
      clear H4 cP1 cP2 cR' lP lR
      have cR' : w5.cell? ⟨R, 10, none⟩ = some (.int .u32 4294967294) := H5.out.1.cP.2.2.1
      have lR := H5.out.1.cP.2.2.2.2
      go_upto_region 8 with (go_at_call 14; refine (geti1 _).mono ?_; rintro e w6 ⟨rfl, hg6⟩; have H6 : Hid (Lw w6 C F P R M1 O M2 n ts so a star ex true lazy kl ur um kd (ldI tx) ∧ Tb w6 T ∧ Blk w6 B 87 (niC a star ex) ∧ w.grownBy w6 none) := Lib.hid ⟨H5.out.1.grow hg6, H5.out.2.1.grow hg6, H5.out.2.2.1.gb hg6 (by simp), gb_trans H5.out.2.2.2 hg6⟩; clear hg6)
      clear H5 cR' lR
      obtain ⟨cF1, cF2, cF3, lF⟩ := H6.out.1.cF
      obtain ⟨cC, lC⟩ := H6.out.1.cC
      have hta := ta42 O w6
      go_upto_region 9 with fail
      clear hta cF1 cF2 cF3 lF cC lC
      obtain ⟨o2, o3, o43, o48, o49, o59, o60, o61, o62, lO⟩ := H6.out.1.cO
      have b0 : w6.cell? ⟨B, 0, none⟩ = some (.string a) := H6.out.2.2.1.cell 0
      have b6 : w6.cell? ⟨B, 6, none⟩ = some (.bool star) := H6.out.2.2.1.cell 6
      have lB := H6.out.2.2.1.lt
      go_cut [109] (fun x wc => x = .bool (c2 star lazy kl a ur um) ∧ w6 = wc)
      case first =>
        as_aux_lemma =>
          cases star with
          | true =>
            go_wp2_with fail
            go_meet
            exact ⟨rfl, rfl⟩
          | false =>
            cases lazy with
            | true =>
              go_wp2_with fail
              go_meet
              exact ⟨rfl, rfl⟩
            | false => 
              by_cases hk0 : kl = 0
              · subst hk0
                cases hq : (a == (⟨#[100, 101, 102, 97, 117, 108, 116]⟩ : ByteArray)) with
                | true =>
                  have hq2 : (a.toList == [100, 101, 102, 97, 117, 108, 116]) = true := (dflt a).trans hq
                  have HQ := Lib.hid hq
                  clear hq
                  go_wp2_with fail
                  go_meet
                  exact ⟨by simp [c2, HQ.out], rfl⟩
                | false =>
                  have hq2 : (a.toList == [100, 101, 102, 97, 117, 108, 116]) = false := (dflt a).trans hq
                  have HQ := Lib.hid hq
                  clear hq
                  cases ur with
                  | true =>
                    go_wp2_with fail
                    go_meet
                    exact ⟨by simp [c2, HQ.out], rfl⟩
                  | false =>
                    cases um with
                    | true =>
                      go_wp2_with fail
                      go_meet
                      exact ⟨by simp [c2, HQ.out], rfl⟩
                    | false =>
                      go_wp2_with fail
                      go_meet
                      exact ⟨by simp [c2, HQ.out], rfl⟩
              · have e1 : decide (kl = 0) = false := by simp [hk0]
                have e2 : (kl == 0) = false := by simp [hk0]
                go_wp2_with fail
                go_meet
                exact ⟨by simp [c2, e2], rfl⟩
      case rest =>
        obtain ⟨rfl, rfl⟩ := hcut
        clear o2 o3 o43 o48 o49 o59 o60 o61 o62 lO b0 b6 lB
        have H7 := H6
        obtain ⟨t1, t2⟩ := H7.out.2.1
        have f0 := t2.free 0
        have f1 := t2.free 1
        have f2 := t2.free 2
        have f3 := t2.free 3
        have k0 : w6.cell? ⟨T + 1, 0, none⟩ = some (.int .u32 0) := t2.cell 0
        have k1 : w6.cell? ⟨T + 1, 1, none⟩ = some (.int .i32 0) := t2.cell 1
        have k2 : w6.cell? ⟨T + 1, 2, none⟩ = some (.int .u32 0) := t2.cell 2
        have k3 : w6.cell? ⟨T + 1, 3, none⟩ = some (.int .u32 0) := t2.cell 3
        have l1 := t2.lt
        clear t1 t2 H7
        have HFIN : Hid (∀ s l r1 r2 : Int, w.grownBy (put4 w6 T s l r1 r2) none) := Lib.hid (fun s l r1 r2 => gb_new (gb_trans (gb_none H6.out.2.2.2) (put4_gb w6 T s l r1 r2)) (by have := HT.out; omega))
        obtain ⟨bb, hbb⟩ : ∃ bb, c2 star lazy kl a ur um = bb := ⟨_, rfl⟩
        rw [hbb]
        have HBB := Lib.hid hbb
        clear hbb
        cases bb with
        | true =>
          as_aux_lemma =>
            have v0 := H6.out.1.v.1
            have v1 := H6.out.1.v.2
            have l0 : 0 < w6.heap.size := World.block_lt_of_cell? w6 _ v0
            go_wp2_with fail
            refine bodyPost_ret (v := .tuple #[.agg #[.int .u32 1, .int .i32 0, .int .u32 4294967295, .int .u32 4294967295], .int .u8 4, .slice none 0 0]) (res12 _ _ (T + 1) _ _ _ _ _ _ (by rfl) (by rfl) (by rfl) (put4_blk H6.out.2.1 1 0 4294967295 4294967295)) rfl ⟨?_, HFIN.out 1 0 4294967295 4294967295⟩
            rw [show cls star ex true lazy kl a ur um kd so.isSome (lastS ts a n).isSome tx = 1 by simp [cls, HBB.out]]
            exact ⟨_, rfl, .inl ⟨rfl, rfl⟩⟩
        | false =>
          have o62 : w6.cell? ⟨O, 62, none⟩ = some (.int .u8 kd) := H6.out.1.cO.2.2.2.2.2.2.2.2.1
          have lO := H6.out.1.cO.2.2.2.2.2.2.2.2.2
          by_cases hkd : kd = 1
          · subst hkd
            as_aux_lemma =>
              have v0 := H6.out.1.v.1
              have v1 := H6.out.1.v.2
              have l0 : 0 < w6.heap.size := World.block_lt_of_cell? w6 _ v0
              go_wp2_with fail
              refine bodyPost_ret (v := .tuple #[.agg #[.int .u32 1, .int .i32 0, .int .u32 4294967295, .int .u32 4294967295], .int .u8 2, .slice none 0 0]) (res12 _ _ (T + 1) _ _ _ _ _ _ (by rfl) (by rfl) (by rfl) (put4_blk H6.out.2.1 1 0 4294967295 4294967295)) rfl ⟨?_, HFIN.out 1 0 4294967295 4294967295⟩
              rw [show cls star ex true lazy kl a ur um 1 so.isSome (lastS ts a n).isSome tx = 2 by simp [cls, HBB.out]]
              exact ⟨_, rfl, .inl ⟨rfl, rfl⟩⟩
          · have e1 : decide (kd = 1) = false := by simp [hkd]
            have e2 : (kd == 1) = false := by simp [hkd]
            have o3 : w6.cell? ⟨O, 3, none⟩ = some (starP so) := H6.out.1.cO.2.1
            have b6 : w6.cell? ⟨B, 6, none⟩ = some (.bool star) := H6.out.2.2.1.cell 6
            have lB := H6.out.2.2.1.lt
            have HKD := Lib.hid hkd
            clear hkd
            go_upto_region 14 with fail
            go_cut [132] (fun x wc => x = .bool (star && so.isSome) ∧ w6 = wc)
            case first =>
              as_aux_lemma =>
                cases star with
                | false =>
                  go_wp2_with fail
                  go_meet
                  exact ⟨rfl, rfl⟩
                | true =>
                  cases so with
                  | none =>
                    rw [show starP none = .pointer none from rfl]
                    go_wp2_with fail
                    go_meet
                    exact ⟨rfl, rfl⟩
                  | some S =>
                    rw [show starP (some S) = .pointer (some ⟨S, 0, none⟩) from rfl]
                    go_wp2_with fail
                    go_meet
                    exact ⟨rfl, rfl⟩
            case rest =>
              obtain ⟨rfl, rfl⟩ := hcut
              clear o3 b6 lB
              cases hss : (star && so.isSome) with
              | true =>
                as_aux_lemma =>
                  obtain ⟨rfl, hso⟩ : star = true ∧ so.isSome = true := by simpa using hss
                  obtain ⟨S, rfl⟩ := Option.isSome_iff_exists.1 hso
                  clear hss hso
                  obtain ⟨A, s1, s2⟩ := H6.out.1.o.s S rfl
                  have g0 : w6.drew.cell? ⟨S, 0, none⟩ = some (.slice (some ⟨A, 0, none⟩) 2 2) := s1.cell 0
                  have g1 : w6.drew.cell? ⟨S, 1, none⟩ = some (.int .u32 3) := s1.cell 1
                  have g2 : w6.drew.cell? ⟨S, 1 + 1, none⟩ = some (.int .u32 77) := s1.cell 2
                  have g3 : w6.drew.cell? ⟨S, 3, none⟩ = some (.int .i32 99) := s1.cell 3
                  have g4 : w6.drew.cell? ⟨S, 4, none⟩ = some (.int .u32 3) := s1.cell 4
                  have h0 : w6.cell? ⟨S, 0, none⟩ = some (.slice (some ⟨A, 0, none⟩) 2 2) := s1.cell 0
                  have gl := s1.lt
                  have HA := Lib.hid s2
                  have HAT : Hid (A ≠ T + 1) := Lib.hid (fun e => by
                    have h1 := H6.out.2.1.2
                    unfold Blk at h1 s2
                    rw [← e, s2] at h1
                    cases h1)
                  have f0' : w6.drew.frozen? ⟨T + 1, 0, none⟩ = false := f0
                  have f1' : w6.drew.frozen? ⟨T + 1, 1, none⟩ = false := f1
                  have f2' : w6.drew.frozen? ⟨T + 1, 2, none⟩ = false := f2
                  have f3' : w6.drew.frozen? ⟨T + 1, 3, none⟩ = false := f3
                  have k0' : w6.drew.cell? ⟨T + 1, 0, none⟩ = some (.int .u32 0) := k0
                  have k1' : w6.drew.cell? ⟨T + 1, 1, none⟩ = some (.int .i32 0) := k1
                  have k2' : w6.drew.cell? ⟨T + 1, 2, none⟩ = some (.int .u32 0) := k2
                  have k3' : w6.drew.cell? ⟨T + 1, 3, none⟩ = some (.int .u32 0) := k3
                  rw [show starP (some S) = .pointer (some ⟨S, 0, none⟩) from rfl]
                  have hST : ¬ S = T + 1 := fun e => by
                    have h1 := H6.out.2.1.2
                    unfold Blk at h1 s1
                    rw [← e, s1] at h1
                    cases h1
                  clear s1 s2
                  go_upto_region 15 with fail
                  go_region
                  go_wp2_with fail
                  refine bodyPost_ret (v := .tuple #[.agg #[.int .u32 3, .int .i32 99, .int .u32 3, .int .u32 77], .int .u8 1, .slice (some ⟨A, 0, none⟩) 2 2]) (res12 _ _ (T + 1) _ _ _ _ _ _ (by rfl) (by rfl) (by rfl) (put4_blk H6.out.2.1 3 99 3 77)) rfl ⟨?_, gb_drew (HFIN.out 3 99 3 77)⟩
                  rw [show cls true ex true lazy kl a ur um kd (some S).isSome (lastS ts a n).isSome tx = 3 by simp [cls, HBB.out, HKD.out]]
                  exact ⟨_, rfl, .inr ⟨A, rfl, (HA.out.gb (put4_gb w6 T 3 99 3 77) (fun e => HAT.out (Option.some.inj e))).drew, fun h => by cases h⟩⟩
              | false =>
                have HSS := Lib.hid hss
                clear hss k0 k1 k2 k3 f0 f1 f2 f3 l1
                clear HFIN
                have hcl : ∀ b2 b3 : Bool, cls star ex true lazy kl a ur um kd so.isSome b2 b3 = if b2 = true then 4 else if kd = 3 then 5 else if (b3 && ex) = true then 6 else 7 := fun b2 b3 => by
                  unfold cls
                  rw [if_neg (by simp), if_neg (by simp [HBB.out]), if_neg HKD.out, if_neg (by simp [HSS.out])]
                have HCL := Lib.hid hcl
                clear hcl e1 e2 o62 lO
                cases hlj : lastS ts a n with
                | some j =>
                  as_aux_lemma =>
                    have HLJ := Lib.hid hlj
                    have hjn : j < n := lastS_lt hlj
                    obtain ⟨N, hN⟩ : ∃ N, w6.heap.size = N := ⟨_, rfl⟩
                    obtain ⟨A, hA⟩ : ∃ A, M2 + 1 + 2 * j + 1 = A := ⟨_, rfl⟩
                    have HAA := Lib.hid hA
                    have hlk := look45 (H6.out.1.grow (gb_drewN w6 1)).o.x a has
                    rw [← World.drew_is_drewN, hlj] at hlk
                    simp only [ed, edC, hA, Option.isSome_some] at hlk
                    obtain ⟨wa, hwa⟩ : ∃ wa, w6.alloc (.cells zed 103) = wa := ⟨_, rfl⟩
                    have hga : w6.grownBy wa none := by rw [← hwa]; exact gb_alloc (gb_refl _ _) _
                    have hlk2 := look45 ((H6.out.1.grow hga).grow (gb_drewN wa 1)).o.x a has
                    rw [← World.drew_is_drewN, hlj] at hlk2
                    simp only [ed, edC, hA, Option.isSome_some] at hlk2
                    have p2 : w6.drew.cell? ⟨O, 2, none⟩ = some (.map (some M2)) := H6.out.1.cO.1
                    have b0 : w6.drew.cell? ⟨B, 0, none⟩ = some (.string a) := H6.out.2.2.1.cell 0
                    have q2 : wa.drew.cell? ⟨O, 2, none⟩ = some (.map (some M2)) := (H6.out.1.grow hga).cO.1
                    have d0 : wa.drew.cell? ⟨B, 0, none⟩ = some (.string a) := (H6.out.2.2.1.gb hga (by simp)).cell 0
                    have lO := H6.out.1.cO.2.2.2.2.2.2.2.2.2
                    have lB := H6.out.2.2.1.lt
                    rw [← hwa] at hlk2 q2 d0
                    simp only [zed] at hlk2 q2 d0
                    clear hga hwa hA hlj
                    go_upto_region 16 with fail
                    go_cut [14, 15] (fun x y wc => x = .pointer (some ⟨N, 0, none⟩) ∧ y = .bool true ∧ Hid (Lw wc C F P R M1 O M2 n ts so a star ex true lazy kl ur um kd (ldI tx) ∧ Tb wc T ∧ Blk wc N 103 (edC A (j : Int)) ∧ w.grownBy wc none))
                    case first =>
                      go_region
                      all_goals
                        go_wp2_with fail
                        go_meet
                        have hb := Blk.new w6 103 (edC A (j : Int))
                        have hg := gb_drew (gb_alloc (gb_refl w6 none) (.cells (edC A (j : Int)) 103))
                        rw [hN] at hb
                        exact ⟨rfl, rfl, Lib.hid ⟨H6.out.1.grow hg, H6.out.2.1.grow hg, hb.drew, gb_trans H6.out.2.2.2 hg⟩⟩
                    case rest =>
                      obtain ⟨rfl, rfl, H8⟩ := hcut
                      obtain ⟨w7, rfl⟩ : ∃ w7 : World, w7 = wc := ⟨_, rfl⟩
                      clear hlk hlk2 p2 b0 q2 d0 lO lB hN
                      obtain ⟨t1, t2⟩ := H8.out.2.1
                      have n1 := H8.out.2.2.1
                      have hNT : ¬ N = T + 1 := fun e => by
                        have h1 := t2
                        have h2 := n1
                        unfold Blk at h1 h2
                        rw [← e, h2] at h1
                        cases h1
                      have f0 : w7.drew.frozen? ⟨T + 1, 0, none⟩ = false := t2.free 0
                      have f1 : w7.drew.frozen? ⟨T + 1, 1, none⟩ = false := t2.free 1
                      have f2 : w7.drew.frozen? ⟨T + 1, 2, none⟩ = false := t2.free 2
                      have f3 : w7.drew.frozen? ⟨T + 1, 3, none⟩ = false := t2.free 3
                      have k0 : w7.drew.cell? ⟨T + 1, 0, none⟩ = some (.int .u32 0) := t2.cell 0
                      have k1 : w7.drew.cell? ⟨T + 1, 1, none⟩ = some (.int .i32 0) := t2.cell 1
                      have k2 : w7.drew.cell? ⟨T + 1, 2, none⟩ = some (.int .u32 0) := t2.cell 2
                      have k3 : w7.drew.cell? ⟨T + 1, 3, none⟩ = some (.int .u32 0) := t2.cell 3
                      have f0' := t2.free 0
                      have f1' := t2.free 1
                      have f2' := t2.free 2
                      have f3' := t2.free 3
                      have k0' : w7.cell? ⟨T + 1, 0, none⟩ = some (.int .u32 0) := t2.cell 0
                      have k1' : w7.cell? ⟨T + 1, 1, none⟩ = some (.int .i32 0) := t2.cell 1
                      have k2' : w7.cell? ⟨T + 1, 2, none⟩ = some (.int .u32 0) := t2.cell 2
                      have k3' : w7.cell? ⟨T + 1, 3, none⟩ = some (.int .u32 0) := t2.cell 3
                      have g0 : w7.drew.cell? ⟨N, 0, none⟩ = some (.slice (some ⟨A, 0, none⟩) 1 1) := n1.cell 0
                      have g1 : w7.drew.cell? ⟨N, 1, none⟩ = some (.int .u32 1) := n1.cell 1
                      have g2 : w7.drew.cell? ⟨N, 1 + 1, none⟩ = some (.int .u32 (j : Int)) := n1.cell 2
                      have g3 : w7.drew.cell? ⟨N, 3, none⟩ = some (.int .i32 ((j : Int) + 1)) := n1.cell 3
                      have g4 : w7.drew.cell? ⟨N, 4, none⟩ = some (.int .u32 ((j : Int) + 5)) := n1.cell 4
                      have h0 : w7.cell? ⟨N, 0, none⟩ = some (.slice (some ⟨A, 0, none⟩) 1 1) := n1.cell 0
                      have gl := n1.lt
                      have l1 := t2.lt
                      clear t1 t2 n1
                      go_upto_region 18 with fail
                      go_region
                      go_wp2_with fail
                      have hAm := H8.out.1.o.x.amb j hjn
                      rw [HAA.out] at hAm
                      refine bodyPost_ret (v := .tuple #[.agg #[.int .u32 ((j : Int) + 5), .int .i32 ((j : Int) + 1), .int .u32 1, .int .u32 (j : Int)], .int .u8 1, .slice (some ⟨A, 0, none⟩) 1 1]) (res12 _ _ (T + 1) _ _ _ _ _ _ (by rfl) (by rfl) (by rfl) (put4_blk H8.out.2.1 ((j : Int) + 5) ((j : Int) + 1) 1 (j : Int))) rfl ⟨?_, gb_drew (gb_new (gb_trans (gb_none H8.out.2.2.2) (put4_gb w7 T ((j : Int) + 5) ((j : Int) + 1) 1 (j : Int))) (by have := HT.out; omega))⟩
                      rw [HCL.out, HLJ.out]
                      have hAT : A ≠ T + 1 := fun e => by
                        have h1 := H8.out.2.1.2
                        unfold Blk at h1 hAm
                        rw [← e, hAm] at h1
                        cases h1
                      exact ⟨_, rfl, .inr ⟨A, rfl, (hAm.gb (put4_gb w7 T ((j : Int) + 5) ((j : Int) + 1) 1 (j : Int)) (fun e => hAT (Option.some.inj e))).drew, fun h => by cases h⟩⟩
                | none =>
                  as_aux_lemma =>
                    have HLJ := Lib.hid hlj
                    obtain ⟨N, hN⟩ : ∃ N, w6.heap.size = N := ⟨_, rfl⟩
                    have hlk := look45 (H6.out.1.grow (gb_drewN w6 1)).o.x a has
                    rw [← World.drew_is_drewN, hlj] at hlk
                    simp only [zed, Option.isSome_none] at hlk
                    obtain ⟨wa, hwa⟩ : ∃ wa, w6.alloc (.cells zed 103) = wa := ⟨_, rfl⟩
                    have hga : w6.grownBy wa none := by rw [← hwa]; exact gb_alloc (gb_refl _ _) _
                    have hlk2 := look45 ((H6.out.1.grow hga).grow (gb_drewN wa 1)).o.x a has
                    rw [← World.drew_is_drewN, hlj] at hlk2
                    simp only [zed, Option.isSome_none] at hlk2
                    have p2 : w6.drew.cell? ⟨O, 2, none⟩ = some (.map (some M2)) := H6.out.1.cO.1
                    have b0 : w6.drew.cell? ⟨B, 0, none⟩ = some (.string a) := H6.out.2.2.1.cell 0
                    have q2 : wa.drew.cell? ⟨O, 2, none⟩ = some (.map (some M2)) := (H6.out.1.grow hga).cO.1
                    have d0 : wa.drew.cell? ⟨B, 0, none⟩ = some (.string a) := (H6.out.2.2.1.gb hga (by simp)).cell 0
                    have lO := H6.out.1.cO.2.2.2.2.2.2.2.2.2
                    have lB := H6.out.2.2.1.lt
                    rw [← hwa] at hlk2 q2 d0
                    simp only [zed] at hlk2 q2 d0
                    clear hga hwa hlj
                    go_upto_region 16 with fail
                    go_cut [15] (fun y wc => y = .bool false ∧ Hid (Lw wc C F P R M1 O M2 n ts so a star ex true lazy kl ur um kd (ldI tx) ∧ Tb wc T ∧ Blk wc B 87 (niC a star ex) ∧ w.grownBy wc none))
                    case first =>
                      go_region
                      all_goals
                        go_wp2_with fail
                        go_meet
                        have hg := gb_drew (gb_alloc (gb_refl w6 none) (.cells zed 103))
                        exact ⟨rfl, Lib.hid ⟨H6.out.1.grow hg, H6.out.2.1.grow hg, H6.out.2.2.1.gb hg (by simp), gb_trans H6.out.2.2.2 hg⟩⟩
                    case rest =>
                      obtain ⟨rfl, H8⟩ := hcut
                      obtain ⟨w7, rfl⟩ : ∃ w7 : World, w7 = wc := ⟨_, rfl⟩
                      clear hlk hlk2 p2 b0 q2 d0 lO lB hN
                      have HFIN : Hid (∀ s l r1 r2 : Int, w.grownBy (put4 w7 T s l r1 r2) none) := Lib.hid (fun s l r1 r2 => gb_new (gb_trans (gb_none H8.out.2.2.2) (put4_gb w7 T s l r1 r2)) (by have := HT.out; omega))
                      obtain ⟨t1, t2⟩ := H8.out.2.1
                      have f0 := t2.free 0
                      have f1 := t2.free 1
                      have f2 := t2.free 2
                      have f3 := t2.free 3
                      have k0 : w7.cell? ⟨T + 1, 0, none⟩ = some (.int .u32 0) := t2.cell 0
                      have k1 : w7.cell? ⟨T + 1, 1, none⟩ = some (.int .i32 0) := t2.cell 1
                      have k2 : w7.cell? ⟨T + 1, 2, none⟩ = some (.int .u32 0) := t2.cell 2
                      have k3 : w7.cell? ⟨T + 1, 3, none⟩ = some (.int .u32 0) := t2.cell 3
                      have l1 := t2.lt
                      obtain ⟨o2, o3, o43, o48, o49, o59, o60, o61, o62, lO⟩ := H8.out.1.cO
                      clear t1 t2 o2 o3 o43 o59 o60 o61
                      by_cases hk3 : kd = 3
                      · have HK3 := Lib.hid hk3
                        subst hk3
                        go_wp2_with fail
                        refine bodyPost_ret (v := .tuple #[.agg #[.int .u32 1, .int .i32 0, .int .u32 1, .int .u32 1073741824], .int .u8 3, .slice none 0 0]) (res12 _ _ (T + 1) _ _ _ _ _ _ (by rfl) (by rfl) (by rfl) (put4_blk H8.out.2.1 1 0 1 1073741824)) rfl ⟨?_, HFIN.out 1 0 1 1073741824⟩
                        rw [HCL.out, HLJ.out]
                        exact ⟨_, rfl, .inl ⟨rfl, rfl⟩⟩
                      · have e1 : decide (kd = 3) = false := by simp [hk3]
                        have e2 : (kd == 3) = false := by simp [hk3]
                        have HK3 := Lib.hid hk3
                        obtain ⟨cF1, cF2, cF3, lF⟩ := H8.out.1.cF
                        have b7 : w7.cell? ⟨B, 7, none⟩ = some (.bool ex) := H8.out.2.2.1.cell 7
                        have lB := H8.out.2.2.1.lt
                        have HIT := Lib.hid (its_any tx)
                        rw [show (if tx = true then (16 : Int) else 10) = ldI tx from rfl] at HIT
                        clear hk3 cF1 cF3
                        go_upto_region 21 with fail
                        go_cut [193] (fun x wc => x = .bool (tx && ex) ∧ w7 = wc)
                        case first =>
                          cases tx with
                          | false =>
                            go_wp2_with (go_at_call 15; refine (HIT.out _).mono ?_; rintro e w8 ⟨rfl, rfl⟩)
                            go_meet
                            exact ⟨rfl, rfl⟩
                          | true =>
                            go_wp2_with (go_at_call 15; refine (HIT.out _).mono ?_; rintro e w8 ⟨rfl, rfl⟩)
                            go_meet
                            exact ⟨rfl, rfl⟩
                        case rest =>
                          obtain ⟨rfl, rfl⟩ := hcut
                          cases hte : (tx && ex) with
                          | true =>
                            have HTE := Lib.hid hte
                            clear hte
                            go_wp2_with fail
                            refine bodyPost_ret (v := .tuple #[.agg #[.int .u32 0, .int .i32 0, .int .u32 0, .int .u32 0], .int .u8 7, .slice none 0 0]) (res12 _ _ (T + 1) _ _ _ _ _ _ (by rfl) (by rfl) (by rfl) (put4_blk H8.out.2.1 0 0 0 0)) rfl ⟨?_, HFIN.out 0 0 0 0⟩
                            rw [HCL.out, HLJ.out, if_neg (by simp), if_neg HK3.out, if_pos HTE.out]
                            exact ⟨_, rfl, .inl ⟨rfl, rfl⟩⟩
                          | false =>
                            have HTE := Lib.hid hte
                            clear hte
                            go_wp2_with fail
                            refine bodyPost_ret (v := .tuple #[.agg #[.int .u32 1, .int .i32 0, .int .u32 0, .int .u32 0], .int .u8 0, .slice none 0 0]) (res12 _ _ (T + 1) _ _ _ _ _ _ (by rfl) (by rfl) (by rfl) (put4_blk H8.out.2.1 1 0 0 0)) rfl ⟨?_, HFIN.out 1 0 0 0⟩
                            rw [HCL.out, HLJ.out, if_neg (by simp), if_neg HK3.out, if_neg (by rw [HTE.out]; simp)]
                            exact ⟨_, rfl, .inl ⟨rfl, rfl⟩⟩
end Go.Proofs.YtgollalliomhfaaDoor
