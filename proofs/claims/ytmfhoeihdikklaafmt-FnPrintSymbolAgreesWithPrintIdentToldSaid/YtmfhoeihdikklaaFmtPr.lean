/-
  The css printer's state as the laws of this seat use it, and the walks of its small methods. No statement of the seat is proved here.
-/
import Derived.Test.YtmfhoeihdikklaaFmtRows
import Derived.WalkKit
import Derived.ProofKit
import Derived.WalkSpells
import Derived.WalkLawsBesides
import Derived.LoopTactic
import Derived.RegionTactic
import Derived.ChangeAlike
import Derived.BigQuiet
import Derived.Deep.QuietTactic
import Derived.Deep.RegionWith
import Derived.OwnWalk
import Derived.WalkSmall
import Derived.Lib.IndexBytes
import Derived.Test.YtmfhoeihdikklaaFmtOwnStr
import Derived.Test.YtmfhoeihdikklaaFmtPus
import Derived.Test.YtmfhoeihdikklaaFmtShelf
namespace Go.Proofs.YtmfhoeihdikklaaFmt
open Go.RowKit
set_option linter.unusedVariables false
set_option linter.unusedSimpArgs false

theorem u8_info : (Tryf.prog.info? 5).map (fun i => (i.zero, i.size, i.bytes)) = some (some (.int .u8 0), 1, 1) := by kernel_rfl
noncomputable def optCells (l : Int) (m a : Bool) (lnv : Option Nat) : Array Value := cellsOf ((Instr.build 64 #[(2, .map lnv), (3, .int .i64 l), (6, .bool m), (7, .bool a)]).run Tryf.prog default)
noncomputable def prCells (l : Int) (m a : Bool) (lnv : Option Nat) (syv : Option Addr × Nat) (v : Value) (s e : Int) : Array Value := cellsOf ((Instr.build 79 #[(0, .agg (optCells l m a lnv)), (1, .agg #[.slice syv.1 syv.2 syv.2]), (3, v), (8, .int .i64 s), (9, .int .i64 e)]).run Tryf.prog default)
theorem build64a (l : Int) (m a : Bool) (w : World) : (Instr.build 64 #[(3, .int .i64 l), (6, .bool m), (7, .bool a)]).run Tryf.prog w = .ok (.agg (optCells l m a none)) w := by kernel_rfl
theorem build64b (a : Bool) (M : Nat) (w : World) : (Instr.build 64 #[(7, .bool a), (2, .map (some M))]).run Tryf.prog w = .ok (.agg (optCells 0 false a (some M))) w := by kernel_rfl
theorem build79a (l : Int) (m a : Bool) (ao : Option Addr) (n c : Nat) (w : World) : (Instr.build 79 #[(0, .agg (optCells l m a none)), (3, .slice ao n c)]).run Tryf.prog w = .ok (.agg (prCells l m a none (none, 0) (.slice ao n c) 0 0)) w := by kernel_rfl
theorem build79b (a : Bool) (M T : Nat) (ao : Option Addr) (n c : Nat) (w : World) : (Instr.build 79 #[(0, .agg (optCells 0 false a (some M))), (1, .agg #[.slice (some ⟨T, 0, none⟩) 1 1]), (3, .slice ao n c)]).run Tryf.prog w = .ok (.agg (prCells 0 false a (some M) (some ⟨T, 0, none⟩, 1) (.slice ao n c) 0 0)) w := by kernel_rfl
theorem pr2 (l : Int) (m a : Bool) (lnv : Option Nat) (syv : Option Addr × Nat) (ao : Option Addr) (n c : Nat) (s e : Int) : (prCells l m a lnv syv (.slice ao n c) s e)[2]? = some (.map lnv) := by kernel_rfl
theorem pr13 (l : Int) (m a : Bool) (lnv : Option Nat) (syv : Option Addr × Nat) (ao : Option Addr) (n c : Nat) (s e : Int) : (prCells l m a lnv syv (.slice ao n c) s e)[13]? = some (.slice syv.1 syv.2 syv.2) := by kernel_rfl
theorem pr15 (l : Int) (m a : Bool) (lnv : Option Nat) (syv : Option Addr × Nat) (ao : Option Addr) (n c : Nat) (s e : Int) : (prCells l m a lnv syv (.slice ao n c) s e)[15]? = some (.slice ao n c) := by kernel_rfl
theorem set15 (l : Int) (m a : Bool) (lnv : Option Nat) (syv : Option Addr × Nat) (ao bo : Option Addr) (n c n' c' : Nat) (s e : Int) : (prCells l m a lnv syv (.slice ao n c) s e).setIfInBounds 15 (.slice bo n' c') = prCells l m a lnv syv (.slice bo n' c') s e := by kernel_rfl

/-- a printer at block p, whose buffer (of the call's own, blocks from B on) reads as zs -/
def Pr (w : World) (B p : Nat) (l : Int) (m a : Bool) (lnv : Option Nat) (syv : Option Addr × Nat) (zs : List Int) (s e : Int) : Prop :=
  ∃ ao c, Blk w p 79 (prCells l m a lnv syv (.slice ao zs.length c) s e) ∧ Own .u8 5 w B (.slice ao zs.length c) zs ∧ (Value.slice ao zs.length c).ownBlock ≠ some p ∧ B ≤ p
/-- an object that is no row of bytes -/
def NB (o : Obj) : Prop := ∀ cs fr, o ≠ .cells cs 5 fr
theorem nb_cells {cs : Array Value} {t : TypeId} {fr : Nat × Nat} (h : t ≠ 5) : NB (.cells cs t fr) := fun _ _ e => h (by cases e; rfl)
theorem nb_iter (s : ByteArray) (i : Nat) : NB (.stringIter s i) := fun _ _ e => by cases e
/-- every object that is no row of bytes, but p, is as it was -/
def Keep (w w' : World) (p : Nat) : Prop := ∀ k o, w.heap[k]? = some o → NB o → k ≠ p → w'.heap[k]? = some o
theorem Keep.refl (w : World) (p : Nat) : Keep w w p := fun _ _ h _ _ => h
theorem Keep.trans {a b c : World} {p : Nat} (h : Keep a b p) (k : Keep b c p) : Keep a c p := fun i o h1 h2 h3 => k i o (h i o h1 h2 h3) h2 h3
theorem Keep.alloc {w w' : World} {p : Nat} (o : Obj) (h : Keep (w.alloc o) w' p) : Keep w w' p := fun i o' h1 h2 h3 => h i o' (blk_alloc h1 o) h2 h3
theorem Keep.blk {w w' : World} {p b : Nat} {t : TypeId} {cs : Array Value} (h : Keep w w' p) (hb : Blk w b t cs) (ht : t ≠ 5) (hne : b ≠ p) : Blk w' b t cs := h b _ hb (nb_cells ht) hne
theorem keep_gr {w w' : World} {B p : Nat} {v v' : Value} {zs : List Int} (ho : Own .u8 5 w B v zs) (h : Gr w v w' v') : Keep w w' p := by
  intro k o hk ht hne
  refine (h.1.block k (blk_lt hk) ?_).trans hk
  intro e
  rcases ho.2 with ⟨rfl, _⟩ | ⟨g, cap, cur, rfl, _, hg, _⟩
  · cases e
  · cases e
    rw [hk] at hg
    exact ht _ _ (Option.some.inj hg)
theorem keep_set {w w' : World} {p : Nat} (h : Keep w w' p) (i : Nat) (x : Value) : Keep w (w'.setCell ⟨p, i, none⟩ x) p := fun k o h1 h2 h3 => blk_set_ne (h k o h1 h2 h3) h3 _ _ _
theorem pr_alloc {w : World} {B p : Nat} {l : Int} {m a : Bool} {lnv : Option Nat} {syv : Option Addr × Nat} {zs : List Int} {s e : Int} (h : Pr w B p l m a lnv syv zs s e) (o : Obj) : Pr (w.alloc o) B p l m a lnv syv zs s e := by
  obtain ⟨ao, c, h1, h2, h3, h4⟩ := h
  exact ⟨ao, c, h1.alloc o, h2.alloc o, h3, h4⟩
end Go.Proofs.YtmfhoeihdikklaaFmt
