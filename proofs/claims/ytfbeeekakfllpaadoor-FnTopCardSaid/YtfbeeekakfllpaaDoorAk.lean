/-
  (*ChunkBuilder).AddSourceMapping at a duplicate. No statement of the seat is proved here.
-/
import Derived.Test.YtfbeeekakfllpaaDoorBu
import Derived.Test.YtfbeeekakfllpaaDoorAd
namespace Go.Proofs.YtfbeeekakfllpaaDoor
open Go.RowKit Go.Maps
set_option linter.unusedVariables false
set_option linter.unusedSimpArgs false
set_option maxRecDepth 100000 in
set_option maxHeartbeats 4000000 in
theorem asm_skip (g : Nat) (x : Cb) (sm : Value) (q : Pq) (qvs : List Value) (ns : List ByteArray) (bm : Nat) (asc : Bool) (ao : Option Addr) (M cap p : Nat) (s : ByteArray) (w : World) (h : Bu w g x sm q qvs ns bm asc) (hs : (p : Int) = x.loc ∧ (x.pgl = (M : Int) ∨ x.pon = s)) :
    Calls Tryd.prog 13 #[.pointer (some ⟨g, 0, none⟩), .agg #[.int .i32 p], .string s, .slice ao M cap] w fun e w' => e = .returned (.tuple #[]) ∧ w.grownBy w' none := by
  have e15 := h.cbd.blk.cell 15
  have e16 := h.cbd.blk.cell 16
  have e5 := h.cbd.blk.cell 5
  have hl := h.cbd.blk.lt
  simp only [up, Cb.cells] at e15 e16 e5
  clear h
  obtain ⟨a, ha⟩ : ∃ a, x.loc = a := ⟨_, rfl⟩
  obtain ⟨b, hb⟩ : ∃ b, x.pgl = b := ⟨_, rfl⟩
  obtain ⟨c, hc⟩ : ∃ b, x.pon = b := ⟨_, rfl⟩
  rw [ha] at e16 hs
  rw [hb] at e15 hs
  rw [hc] at e5 hs
  clear ha hb hc
  have d1 : ((p : Int) == a) = true := beq_iff_eq.2 hs.1
  by_cases hbM : b = (M : Int)
  · have d2 : (b == (M : Int)) = true := beq_iff_eq.2 hbM
    clear hs hbM
    go_enter Tryd.func13, Tryd.ntmps13
    go_wp2
    go_quiet (fail)
    go_wp2
    refine bodyPost_ret (results_none rfl _ _ _) rfl ?_
    exact ⟨rfl, gb_trans (World.grownBy_alloc _ _ _) (gb_drewN _ _)⟩
  · have d2 : (b == (M : Int)) = false := beq_eq_false_iff_ne.2 hbM
    have d3 := str_yes (hs.2.resolve_left hbM)
    clear hs hbM
    go_enter Tryd.func13, Tryd.ntmps13
    go_wp2
    go_quiet (fail)
    go_wp2
    refine bodyPost_ret (results_none rfl _ _ _) rfl ?_
    exact ⟨rfl, gb_trans (World.grownBy_alloc _ _ _) (gb_drewN _ _)⟩
end Go.Proofs.YtfbeeekakfllpaaDoor
