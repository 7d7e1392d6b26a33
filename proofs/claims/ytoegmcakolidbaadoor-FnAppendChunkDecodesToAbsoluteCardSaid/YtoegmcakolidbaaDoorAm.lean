/-
  What AppendSourceMapChunk keeps while it writes into the joiner. No statement of the seat is proved here.
-/
import Derived.Test.YtoegmcakolidbaaDoorDn
import Derived.Test.YtoegmcakolidbaaDoorNu
import Derived.Test.YtoegmcakolidbaaDoorSm
import Derived.Test.YtoegmcakolidbaaDoorRp
import Derived.Test.YtoegmcakolidbaaDoorCk
import Derived.Test.YtoegmcakolidbaaDoorSo
namespace Go.Proofs.YtoegmcakolidbaaDoor
open Go.RowKit
set_option linter.unusedVariables false
theorem Fr.of_below {w w' : World} (g : Nat) (v : Value) (hb : Below w.heap.size w w') : Fr w g v w' v := ⟨hb.os, hb.tape, hb.output, hb.size, fun i hi _ _ => hb.block i hi, .inl rfl⟩
/-- j the joiner, b the first of the call's own three blocks: the state before, the start, the buffer -/
structure Am (w0 : World) (j : Nat) (v0 : Value) (B b bz oz n cap : Nat) (zs : List Int) (fo : Int) (fb : Bool) (wr : World) (v : Value) (ts : List Pc) (xss : List (List Int)) (lb : Int) (p s : St) : Prop where
  jc : Jc wr j v ts xss lb
  tab : Tab wr B
  fr : Fr w0 j v0 wr v
  inn : In .u8 wr (some ⟨bz, oz, none⟩) zs
  bzl : bz < wr.heap.size
  ne1 : bz ≠ j
  ne2 : v.ownBlock ≠ some bz
  ne3 : bz < b
  bp : Blk wr b 42 (sCells p fb)
  bs : Blk wr (b + 1) 42 s.cells
  bb : Blk wr (b + 2) 47 #[.slice (some ⟨bz, oz, none⟩) n cap, .int .u32 fo]
  own : ∀ g, v.ownBlock = some g → g < b ∨ b + 3 ≤ g
  jb : j < b
  Bj : B ≤ j
  wb : w0.heap.size ≤ b
section
variable {w0 : World} {j : Nat} {v0 : Value} {B b bz oz n cap : Nat} {zs : List Int} {fo : Int} {fb : Bool} {wr : World} {v : Value} {ts : List Pc} {xss : List (List Int)} {lb : Int} {p s : St}
theorem Am.lt (h : Am w0 j v0 B b bz oz n cap zs fo fb wr v ts xss lb p s) : b + 3 ≤ wr.heap.size := h.bb.lt
theorem Am.ownlt (h : Am w0 j v0 B b bz oz n cap zs fo fb wr v ts xss lb p s) : ∀ g, v.ownBlock = some g → j + 1 ≤ g ∧ g < wr.heap.size := World.ownsRow.lt h.jc.jn.own
theorem Am.below (h : Am w0 j v0 B b bz oz n cap zs fo fb wr v ts xss lb p s) {w' : World} (hb : Below wr.heap.size wr w') : Am w0 j v0 B b bz oz n cap zs fo fb w' v ts xss lb p s := by
  have hl := h.lt
  have h1 := h.Bj
  have h2 := h.jb
  exact ⟨h.jc.kept hb, h.tab.below (hb.mono (by omega)), h.fr.trans (Fr.of_below _ _ hb), h.inn.kept hb, Nat.lt_of_lt_of_le h.bzl hb.size, h.ne1, h.ne2, h.ne3, h.bp.kept hb, h.bs.kept hb, h.bb.kept hb, h.own, h.jb, h.Bj, h.wb⟩
theorem Am.alloc (h : Am w0 j v0 B b bz oz n cap zs fo fb wr v ts xss lb p s) (o : Obj) : Am w0 j v0 B b bz oz n cap zs fo fb (wr.alloc o) v ts xss lb p s := h.below ((Below.refl _ wr).alloc (Nat.le_refl _) o)
theorem Am.drewN (h : Am w0 j v0 B b bz oz n cap zs fo fb wr v ts xss lb p s) (m : Nat) : Am w0 j v0 B b bz oz n cap zs fo fb (wr.drewN m) v ts xss lb p s := h.below ⟨rfl, rfl, rfl, Nat.le_refl _, fun _ _ => rfl⟩
theorem Am.start {w : World} (hJ : Jc w j v ts xss lb) (ht : Tab w B) (hBj : B ≤ j) (hin : In .u8 w (some ⟨bz, oz, none⟩) zs) (hbz : bz < w.heap.size) (h1 : bz ≠ j) (h2 : v.ownBlock ≠ some bz) :
    Am w j v B w.heap.size bz oz n cap zs fo fb (((w.alloc (.cells (sCells p fb) 42)).alloc (.cells s.cells 42)).alloc (.cells #[.slice (some ⟨bz, oz, none⟩) n cap, .int .u32 fo] 47)) v ts xss lb p s := by
  have hb : Below w.heap.size w (((w.alloc (.cells (sCells p fb) 42)).alloc (.cells s.cells 42)).alloc (.cells #[.slice (some ⟨bz, oz, none⟩) n cap, .int .u32 fo] 47)) := (((Below.refl _ w).alloc (Nat.le_refl _) _).alloc (by simp) _).alloc (by simp; omega) _
  have k1 := ((Blk.new w 42 (sCells p fb)).alloc (.cells s.cells 42)).alloc (.cells #[.slice (some ⟨bz, oz, none⟩) n cap, .int .u32 fo] 47)
  have k2 := (Blk.new (w.alloc (.cells (sCells p fb) 42)) 42 s.cells).alloc (.cells #[.slice (some ⟨bz, oz, none⟩) n cap, .int .u32 fo] 47)
  have k3 := Blk.new ((w.alloc (.cells (sCells p fb) 42)).alloc (.cells s.cells 42)) 47 #[.slice (some ⟨bz, oz, none⟩) n cap, .int .u32 fo]
  rw [show (w.alloc (.cells (sCells p fb) 42)).heap.size = w.heap.size + 1 by simp] at k2
  rw [show ((w.alloc (.cells (sCells p fb) 42)).alloc (.cells s.cells 42)).heap.size = w.heap.size + 2 by simp] at k3
  have hjl := hJ.lt
  exact ⟨hJ.kept hb, ht.below (hb.mono (by omega)), Fr.of_below _ _ hb, hin.kept hb, Nat.lt_of_lt_of_le hbz hb.size, h1, h2, hbz, k1, k2, k3, fun g hg => .inl (World.ownsRow.lt hJ.jn.own g hg).2, by omega, hBj, Nat.le_refl _⟩
theorem In.not_sf {w : World} {ao : Option Addr} {xs : List Int} {x : Nat} {s : St} {fb : Bool} (h : In .u8 w ao xs) (hb : Blk w x 42 (sCells s fb)) (hne : xs ≠ []) : ∀ y o, ao = some ⟨y, o, none⟩ → y ≠ x := by
  rintro y o rfl rfl
  obtain ⟨b', o', e, _, hc⟩ := h.at (i := 0) (List.length_pos_iff.2 hne)
  cases e
  rw [hb.cell] at hc
  generalize o + 0 = k at hc
  rcases k with _ | _ | _ | _ | _ | _ | _ | k <;> simp [sCells] at hc
theorem In.not_st {w : World} {ao : Option Addr} {xs : List Int} {x : Nat} {s : St} (h : In .u8 w ao xs) (hb : Blk w x 42 s.cells) (hne : xs ≠ []) : ∀ y o, ao = some ⟨y, o, none⟩ → y ≠ x := by
  rintro y o rfl rfl
  obtain ⟨b', o', e, _, hc⟩ := h.at (i := 0) (List.length_pos_iff.2 hne)
  cases e
  rw [hb.cell] at hc
  generalize o + 0 = k at hc
  rcases k with _ | _ | _ | _ | _ | _ | _ | k <;> simp [St.cells] at hc
theorem Am.put (h : Am w0 j v0 B b bz oz n cap zs fo fb wr v ts xss lb p s) {p' s' : St} (x : Nat) (hx : x = b ∨ x = b + 1) (i : Nat) (u : Value) {fb' : Bool} (hp : Blk (wr.setCell ⟨x, i, none⟩ u) b 42 (sCells p' fb')) (hs : Blk (wr.setCell ⟨x, i, none⟩ u) (b + 1) 42 s'.cells) :
    Am w0 j v0 B b bz oz n cap zs fo fb' (wr.setCell ⟨x, i, none⟩ u) v ts xss lb p' s' := by
  have hg : wr.grownBy (wr.setCell ⟨x, i, none⟩ u) (some x) := gb_set (gb_refl _ _) i none _
  have hl := h.lt
  have h1 := h.Bj
  have h2 := h.jb
  have h3 := h.ne3
  have h4 := h.wb
  have hox : v.ownBlock ≠ some x := fun e => by have := h.own _ e; omega
  have hin : ∀ (ao : Option Addr) (xs : List Int), In .u8 wr ao xs → In .u8 (wr.setCell ⟨x, i, none⟩ u) ao xs := by
    intro ao xs hi
    have hi' := hi
    rcases hi with h0 | ⟨b', o', e1, e2, e3⟩
    · exact .inl h0
    · rcases Nat.eq_zero_or_pos xs.length with hz | hz
      · exact .inl (List.eq_nil_of_length_eq_zero hz)
      · have hne : b' ≠ x := by
          have hxs : xs ≠ [] := List.length_pos_iff.1 hz
          rcases hx with rfl | rfl
          · exact hi'.not_sf h.bp hxs b' o' e1
          · exact hi'.not_st h.bs hxs b' o' e1
        refine .inr ⟨b', o', e1, Nat.lt_of_lt_of_le e2 hg.size, fun k hk => ?_⟩
        rw [← e3 k hk]
        exact World.cell?_of_block (hg.block b' e2 (fun e => by cases e; exact hne rfl))
  refine ⟨⟨⟨h.jc.jn.blk.gb hg (fun e => by cases e; omega), World.ownsRow.kept h.jc.jn.own hg (.inr hox)⟩, h.jc.len, fun k t xs k1 k2 => ?_⟩, h.tab.below (below_gb (Below.refl _ _) hg (by omega) (by omega)), h.fr.setNew x i u (by omega), hin _ _ h.inn, Nat.lt_of_lt_of_le h.bzl hg.size, h.ne1, h.ne2, h.ne3, hp, hs, h.bb.gb hg (fun e => by cases e; omega), h.own, h.jb, h.Bj, h.wb⟩
  obtain ⟨a1, a2, a3, a4⟩ := h.jc.pcs k t xs k1 k2
  exact ⟨a1, a2, hin _ _ a3, a4⟩
theorem Am.putP1 (h : Am w0 j v0 B b bz oz n cap zs fo fb wr v ts xss lb p s) (z : Int) : Am w0 j v0 B b bz oz n cap zs fo fb (wr.setCell ⟨b, 1, none⟩ (.int .i64 z)) v ts xss lb { p with gc := z } s :=
  h.put b (.inl rfl) 1 _ (h.bp.set 1 (.int .i64 z)) (h.bs.gb (gb_set (gb_refl _ _) 1 none _) (fun e => by simp at e))
theorem Am.putP6 (h : Am w0 j v0 B b bz oz n cap zs fo fb wr v ts xss lb p s) : Am w0 j v0 B b bz oz n cap zs fo false (wr.setCell ⟨b, 6, none⟩ (.bool false)) v ts xss lb p s :=
  h.put b (.inl rfl) 6 _ (h.bp.set 6 (.bool false)) (h.bs.gb (gb_set (gb_refl _ _) 6 none _) (fun e => by simp at e))
theorem Am.putS1 (h : Am w0 j v0 B b bz oz n cap zs fo fb wr v ts xss lb p s) (z : Int) : Am w0 j v0 B b bz oz n cap zs fo fb (wr.setCell ⟨b + 1, 1, none⟩ (.int .i64 z)) v ts xss lb p { s with gc := z } :=
  h.put (b + 1) (.inr rfl) 1 _ (h.bp.gb (gb_set (gb_refl _ _) 1 none _) (fun e => by simp at e)) (h.bs.set 1 (.int .i64 z))
theorem Am.putS2 (h : Am w0 j v0 B b bz oz n cap zs fo fb wr v ts xss lb p s) (z : Int) : Am w0 j v0 B b bz oz n cap zs fo fb (wr.setCell ⟨b + 1, 2, none⟩ (.int .i64 z)) v ts xss lb p { s with si := z } :=
  h.put (b + 1) (.inr rfl) 2 _ (h.bp.gb (gb_set (gb_refl _ _) 2 none _) (fun e => by simp at e)) (h.bs.set 2 (.int .i64 z))
theorem Am.putS3 (h : Am w0 j v0 B b bz oz n cap zs fo fb wr v ts xss lb p s) (z : Int) : Am w0 j v0 B b bz oz n cap zs fo fb (wr.setCell ⟨b + 1, 3, none⟩ (.int .i64 z)) v ts xss lb p { s with ol := z } :=
  h.put (b + 1) (.inr rfl) 3 _ (h.bp.gb (gb_set (gb_refl _ _) 3 none _) (fun e => by simp at e)) (h.bs.set 3 (.int .i64 z))
theorem Am.putS4 (h : Am w0 j v0 B b bz oz n cap zs fo fb wr v ts xss lb p s) (z : Int) : Am w0 j v0 B b bz oz n cap zs fo fb (wr.setCell ⟨b + 1, 4, none⟩ (.int .i64 z)) v ts xss lb p { s with oc := z } :=
  h.put (b + 1) (.inr rfl) 4 _ (h.bp.gb (gb_set (gb_refl _ _) 4 none _) (fun e => by simp at e)) (h.bs.set 4 (.int .i64 z))
def AmTo (w0 : World) (j : Nat) (v0 : Value) (B b bz oz n cap : Nat) (zs : List Int) (fo : Int) (fb : Bool) (xss : List (List Int)) (lb : Int) (p s : St) (e : Ending) (w' : World) : Prop := ∃ (v' : Value) (ts' : List Pc), e = .returned (.tuple #[]) ∧ Am w0 j v0 B b bz oz n cap zs fo fb w' v' ts' xss lb p s
theorem Am.add (h : Am w0 j v0 B b bz oz n cap zs fo fb wr v ts xss lb p s) (ao : Option Addr) (n' cap' : Nat) (ys : List Int) (hn : ys.length = n') (hin : In .u8 wr ao ys) (hne : ys ≠ [] → ∀ x o, ao = some ⟨x, o, none⟩ → x ≠ j ∧ v.ownBlock ≠ some x)
    (h1 : n' ≤ 16777216) (h2 : xss.flatten.length ≤ 16777216) (h3 : xss.length ≤ 1000) : Calls Tryd.prog 10 #[.pointer (some ⟨j, 0, none⟩), .slice ao n' cap'] wr (AmTo w0 j v0 B b bz oz n cap zs fo fb (xss ++ [ys]) (lastB lb ys) p s) := by
  refine (jc_add j v ts xss lb ao n' cap' ys wr h.jc hn hin hne h1 h2 (by rw [h.jc.len]; exact h3)).mono ?_
  rintro e w' ⟨v', t, he, hj, hf⟩
  have hl := h.lt
  have a1 := h.Bj
  have a2 := h.jb
  have a3 := h.ne3
  have hbB : Below B wr w' := ⟨hf.os, hf.tape, hf.output, hf.size, fun i hi => hf.block i (by omega) (by omega) (fun e => by have := h.ownlt _ e; omega)⟩
  refine ⟨v', _, he, hj, h.tab.below hbB, h.fr.trans hf, hf.inn h.inn (fun _ x o e => by cases e; exact ⟨h.ne1, h.ne2⟩), Nat.lt_of_lt_of_le h.bzl hf.size, h.ne1, ?_, h.ne3, hf.blk h.bp (by omega) (fun e => by have := h.own _ e; omega), hf.blk h.bs (by omega) (fun e => by have := h.own _ e; omega), hf.blk h.bb (by omega) (fun e => by have := h.own _ e; omega), ?_, h.jb, h.Bj, h.wb⟩
  · rcases hf.nw with e | ⟨x, e, hx⟩
    · rw [e]; exact h.ne2
    · rw [e]; intro c; cases c; have := h.bzl; omega
  · intro g hg
    rcases hf.nw with e | ⟨x, e, hx⟩
    · rw [e] at hg; exact h.own g hg
    · rw [e] at hg; cases hg; omega
/-- what is new may be added -/
theorem Am.fresh (h : Am w0 j v0 B b bz oz n cap zs fo fb wr v ts xss lb p s) {g : Nat} (hg : wr.heap.size ≤ g) : g ≠ j ∧ v.ownBlock ≠ some g := by
  have hl := h.lt
  have a2 := h.jb
  exact ⟨by omega, fun e => by have := h.ownlt _ e; omega⟩
end
theorem In.sub {k : IntKind} {w : World} {bz oz : Nat} {zs X Y Z : List Int} (h : In k w (some ⟨bz, oz, none⟩) zs) (hz : zs = X ++ (Y ++ Z)) (o' : Nat) (ho : Y ≠ [] → o' = oz + X.length) : In k w (some ⟨bz, o', none⟩) Y := by
  rcases Nat.eq_zero_or_pos Y.length with h0 | h0
  · exact .inl (List.eq_nil_of_length_eq_zero h0)
  · have hY : Y ≠ [] := List.length_pos_iff.1 h0
    rw [ho hY]
    subst hz
    rcases h with h | ⟨b, o, e, hl, hc⟩
    · simp at h; exact absurd h.2.1 hY
    · cases e
      refine .inr ⟨bz, _, rfl, hl, fun i hi => ?_⟩
      have := hc (X.length + i) (by simp; omega)
      rw [Nat.add_assoc, this, nth_app_right, nth_app_left _ _ _ hi]
end Go.Proofs.YtoegmcakolidbaaDoor
