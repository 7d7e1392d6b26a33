/-
  printNamespacedName and the exported doors to it, for a printable name. No statement of the seat is proved here.
-/
import Derived.Test.YtfacjljamebalaaFmtNn
namespace Go.Proofs.YtfacjljamebalaaFmt
open Go.RowKit
set_option linter.unusedVariables false
set_option linter.unusedSimpArgs false

set_option maxRecDepth 100000 in
theorem nn0 (B p : Nat) (l : Int) (m a : Bool) (zs : List Int) (s e : Int) (t : ByteArray) (ws : Int) (w : World) (hp : Pr w B p l m a zs s e) (hB : B ≤ w.heap.size) (ht : t.size ≤ 1048576) (hl : zs.length + 8388608 ≤ 140737488355328) (hn : Nm t) :
    Calls Tryf.prog 17 #[.pointer (some ⟨p, 0, none⟩), .agg #[.pointer none, .string t, .int .i32 0, .int .i32 0, .int .u8 29], .int .u8 ws] w fun en w' => en = .returned (.tuple #[]) ∧ Pr w' B p l m a (zs ++ esc t) s e ∧ Below B w w' ∧ Keep w w' p := by
  obtain ⟨w0, hw0⟩ : ∃ w0, w.alloc (.cells #[.pointer none, .string t, .int .i32 0, .int .i32 0, .int .u8 29] 71) = w0 := ⟨_, rfl⟩
  have hb := Blk.new w 71 #[.pointer none, .string t, .int .i32 0, .int .i32 0, .int .u8 29]
  have hp0 := pr_alloc hp (.cells #[.pointer none, .string t, .int .i32 0, .int .i32 0, .int .u8 29] 71)
  have hB0 : Below B w w0 := by rw [← hw0]; exact (Below.refl _ _).alloc hB _
  have hk0 : Keep w w0 p := by rw [← hw0]; exact Keep.alloc _ (Keep.refl _ _)
  rw [hw0] at hb hp0
  obtain ⟨ao, c, hq, _, _, hBp⟩ := id hp0
  have c9 := (hq.cell 9).trans (pr9 _ _ _ _ _ _ _ _)
  have ltp := hq.lt
  have b0 := hb.cell 0
  have b1 := hb.cell 1
  have b4 := hb.cell 4
  have ltb := hb.lt
  simp at b0 b1 b4
  have HC := Lib.hid (pi_name B p l m a zs s e t ws w0 hp0 (Nat.le_trans hB hB0.size) ht hl hn)
  have H0 := Lib.hid (And.intro hB0 hk0)
  clear hq hp0 hb hB0 hk0 hp
  go_enter Tryf.func17, Tryf.ntmps17
  go_wp2_with (go_at_call 19; refine HC.out.mono ?_; rintro e1 w2 ⟨rfl, hf⟩; have HF := Lib.hid hf; clear hf)
  go_end0
  exact ⟨rfl, HF.out.1, H0.out.1.trans HF.out.2.1, H0.out.2.trans HF.out.2.2⟩
theorem zz0 (B p : Nat) (l : Int) (m a : Bool) (zs : List Int) (s e : Int) (t : ByteArray) (ws : Int) (w : World) (hp : Pr w B p l m a zs s e) (hB : B ≤ w.heap.size) (ht : t.size ≤ 1048576) (hl : zs.length + 8388608 ≤ 140737488355328) (hn : Nm t) :
    Calls Tryf.prog 11 #[.pointer (some ⟨p, 0, none⟩), .int .i64 29, .string t, .int .u8 ws] w fun en w' => en = .returned (.tuple #[]) ∧ Pr w' B p l m a (zs ++ esc t) s e ∧ Below B w w' ∧ Keep w w' p := by
  have HC := Lib.hid (nn0 B p l m a zs s e t ws w hp hB ht hl hn)
  clear hp hl
  go_enter Tryf.func11, Tryf.ntmps11
  go_wp2_with (go_at_call 17; refine HC.out.mono ?_; rintro e1 w2 ⟨rfl, hf⟩; have HF := Lib.hid hf; clear hf)
  go_end0
  exact ⟨rfl, HF.out⟩
theorem sz42 : (⟨#[42]⟩ : ByteArray).size = 1 := rfl
theorem sz124 : (⟨#[124]⟩ : ByteArray).size = 1 := rfl
theorem blk_ne {w : World} {B p q : Nat} {l : Int} {m a : Bool} {zs : List Int} {s e : Int} {cs : Array Value} (hp : Pr w B p l m a zs s e) (hq : Blk w q 69 cs) : q ≠ p := by
  intro e
  subst e
  obtain ⟨ao, c, h1, _⟩ := hp
  have h2 : some (Obj.cells _ 62 (0, 0)) = some (Obj.cells cs 69 (0, 0)) := Eq.trans (Eq.symm h1) hq
  exact absurd (Obj.cells.inj (Option.some.inj h2)).2.1 (by decide)
set_option maxHeartbeats 400000 in
set_option maxRecDepth 100000 in
theorem nn1 (B p q : Nat) (l : Int) (m a : Bool) (zs : List Int) (s e : Int) (t : ByteArray) (ws : Int) (w : World) (hp : Pr w B p l m a zs s e) (hB : B ≤ w.heap.size) (ht : t.size ≤ 1048576) (hl : zs.length + 8388616 ≤ 140737488355328) (hn : Nm t)
    (hq : Blk w q 69 #[.string ⟨#[]⟩, .int .i32 0, .int .i32 0, .int .u8 13]) :
    Calls Tryf.prog 17 #[.pointer (some ⟨p, 0, none⟩), .agg #[.pointer (some ⟨q, 0, none⟩), .string t, .int .i32 0, .int .i32 0, .int .u8 29], .int .u8 ws] w fun en w' => en = .returned (.tuple #[]) ∧ Pr w' B p l m a (((zs ++ byt ⟨#[42]⟩) ++ byt ⟨#[124]⟩) ++ esc t) s e ∧ Below B w w' ∧ Keep w w' p := by
  have hpl := hp.lt
  have hne : q ≠ p := blk_ne hp hq
  obtain ⟨w0, hw0⟩ : ∃ w0, w.alloc (.cells #[.pointer (some ⟨q, 0, none⟩), .string t, .int .i32 0, .int .i32 0, .int .u8 29] 71) = w0 := ⟨_, rfl⟩
  have hb := Blk.new w 71 #[.pointer (some ⟨q, 0, none⟩), .string t, .int .i32 0, .int .i32 0, .int .u8 29]
  have hp0 := pr_alloc hp (.cells #[.pointer (some ⟨q, 0, none⟩), .string t, .int .i32 0, .int .i32 0, .int .u8 29] 71)
  have hq0 := hq.alloc (.cells #[.pointer (some ⟨q, 0, none⟩), .string t, .int .i32 0, .int .i32 0, .int .u8 29] 71)
  have hB0 : Below B w w0 := by rw [← hw0]; exact (Below.refl _ _).alloc hB _
  have hk0 : Keep w w0 p := by rw [← hw0]; exact Keep.alloc _ (Keep.refl _ _)
  rw [hw0] at hb hp0 hq0
  have hnb : w.heap.size ≠ p := by omega
  obtain ⟨ao, c, hx, _, _, hBp⟩ := id hp0
  have c9 := (hx.cell 9).trans (pr9 _ _ _ _ _ _ _ _)
  have ltp := hx.lt
  have b0 := hb.cell 0
  have ltb := hb.lt
  have q4 := hq0.cell 3
  have ltq := hq0.lt
  simp at b0 q4
  have HC := Lib.hid (print_any B p l m a zs s e ⟨#[42]⟩ w0 hp0 (by rw [sz42]; omega) (Nat.le_trans hB hB0.size))
  have H0 := Lib.hid (And.intro hB0 (And.intro hk0 (And.intro hb hq0)))
  clear hx hp0 hb hB0 hk0 hp hq0 hq
  go_enter Tryf.func17, Tryf.ntmps17
  go_upto_region 11 with (go_at_call 20; refine HC.out.mono ?_; rintro e1 w2 ⟨rfl, hf⟩; have HF := Lib.hid hf; clear hf)
  have HC2 := Lib.hid (print_any B p l m a _ s e ⟨#[124]⟩ w2 HF.out.1 (by rw [sz124, List.length_append, byt_length, sz42]; omega) (Nat.le_trans hB (Nat.le_trans H0.out.1.size HF.out.2.1.size)))
  have HB2 := Lib.hid (And.intro (H0.out.1.trans HF.out.2.1) (And.intro (H0.out.2.1.trans HF.out.2.2) (HF.out.2.2.blk H0.out.2.2.1 (by decide) hnb)))
  clear HC HF c9 b0 ltb q4 ltq ltp
  go_upto_region 12 with (go_at_call 20; refine HC2.out.mono ?_; rintro e1 w3 ⟨rfl, hf⟩; have HF := Lib.hid hf; clear hf)
  clear HC2
  obtain ⟨ao3, c3, hx, _, _, _⟩ := id HF.out.1
  have hb3 := HF.out.2.2.blk HB2.out.2.2 (by decide) hnb
  have c9 := (hx.cell 9).trans (pr9 _ _ _ _ _ _ _ _)
  have ltp := hx.lt
  have b1 := hb3.cell 1
  have b4 := hb3.cell 4
  have ltb := hb3.lt
  simp at b1 b4
  have HC3 := Lib.hid (pi_name B p l m a _ s e t ws w3 HF.out.1 (Nat.le_trans hB (Nat.le_trans HB2.out.1.size HF.out.2.1.size)) ht (by rw [List.length_append, List.length_append, byt_length, byt_length, sz42, sz124]; omega) hn)
  clear hx hb3
  go_wp2_with (go_at_call 19; refine HC3.out.mono ?_; rintro e1 w4 ⟨rfl, hf⟩; have HG := Lib.hid hf; clear hf)
  go_end0
  exact ⟨rfl, HG.out.1, (HB2.out.1.trans HF.out.2.1).trans HG.out.2.1, (HB2.out.2.1.trans HF.out.2.2).trans HG.out.2.2⟩
theorem zz1 (B p : Nat) (l : Int) (m a : Bool) (zs : List Int) (s e : Int) (t : ByteArray) (ws : Int) (w : World) (hp : Pr w B p l m a zs s e) (hB : B ≤ w.heap.size) (ht : t.size ≤ 1048576) (hl : zs.length + 8388616 ≤ 140737488355328) (hn : Nm t) :
    Calls Tryf.prog 8 #[.pointer (some ⟨p, 0, none⟩), .int .i64 13, .string ⟨#[]⟩, .int .i64 29, .string t, .int .u8 ws] w fun en w' => en = .returned (.tuple #[]) ∧ Pr w' B p l m a (((zs ++ byt ⟨#[42]⟩) ++ byt ⟨#[124]⟩) ++ esc t) s e ∧ Below B w w' ∧ Keep w w' p := by
  have hb := Blk.new w 69 #[.string ⟨#[]⟩, .int .i32 0, .int .i32 0, .int .u8 13]
  have HC := Lib.hid (nn1 B p w.heap.size l m a zs s e t ws _ (pr_alloc hp _) (Nat.le_trans hB (by simp)) ht hl hn hb)
  have hB0 : Below B w (w.alloc (.cells #[.string ⟨#[]⟩, .int .i32 0, .int .i32 0, .int .u8 13] 69)) := (Below.refl _ _).alloc hB _
  have hk0 : Keep w (w.alloc (.cells #[.string ⟨#[]⟩, .int .i32 0, .int .i32 0, .int .u8 13] 69)) p := Keep.alloc _ (Keep.refl _ _)
  have H0 := Lib.hid (And.intro hB0 hk0)
  clear hp hl hb hB0 hk0
  go_enter Tryf.func8, Tryf.ntmps8
  go_wp2_with (go_at_call 17; refine HC.out.mono ?_; rintro e1 w2 ⟨rfl, hf⟩; have HF := Lib.hid hf; clear hf)
  go_end0
  exact ⟨rfl, HF.out.1, H0.out.1.trans HF.out.2.1, H0.out.2.trans HF.out.2.2⟩
end Go.Proofs.YtfacjljamebalaaFmt
