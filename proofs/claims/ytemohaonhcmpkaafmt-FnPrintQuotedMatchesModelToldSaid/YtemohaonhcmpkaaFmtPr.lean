/-
  The css printer's state as the laws of this seat use it, and the walks of its small methods. No statement of the seat is proved here.
-/
import Derived.Test.YtemohaonhcmpkaaFmtRows
import Derived.WalkKit
import Derived.ProofKit
import Derived.WalkSpells
import Derived.WalkLawsBesides
import Derived.LoopTactic
import Derived.RegionTactic
import Derived.ChangeAlike
import Derived.BigQuiet
import Derived.Deep.QuietTactic
import Derived.Deep.RegionWith
import Derived.OwnWalk
import Derived.WalkSmall
import Derived.Lib.IndexBytes
import Derived.Test.YtemohaonhcmpkaaFmtOwnStr
import Derived.Test.YtemohaonhcmpkaaFmtPus
import Derived.Test.YtemohaonhcmpkaaFmtShelf
namespace Go.Proofs.YtemohaonhcmpkaaFmt
open Go.RowKit
set_option linter.unusedVariables false
set_option linter.unusedSimpArgs false

theorem u8_info : (Tryf.prog.info? 5).map (fun i => (i.zero, i.size, i.bytes)) = some (some (.int .u8 0), 1, 1) := by kernel_rfl
noncomputable def optCells (l : Int) (m a : Bool) : Array Value := cellsOf ((Instr.build 41 #[(3, .int .i64 l), (6, .bool m), (7, .bool a)]).run Tryf.prog default)
noncomputable def prCells (l : Int) (m a : Bool) (v : Value) (s e : Int) : Array Value := cellsOf ((Instr.build 59 #[(0, .agg (optCells l m a)), (3, v), (8, .int .i64 s), (9, .int .i64 e)]).run Tryf.prog default)
theorem build41 (l : Int) (w : World) : (Instr.build 41 #[(3, .int .i64 l)]).run Tryf.prog w = .ok (.agg (optCells l false false)) w := by kernel_rfl
theorem build59 (l : Int) (ao : Option Addr) (n c : Nat) (w : World) : (Instr.build 59 #[(0, .agg (optCells l false false)), (3, .slice ao n c)]).run Tryf.prog w = .ok (.agg (prCells l false false (.slice ao n c) 0 0)) w := by kernel_rfl
theorem pr3 (l : Int) (m a : Bool) (ao : Option Addr) (n c : Nat) (s e : Int) : (prCells l m a (.slice ao n c) s e)[3]? = some (.int .i64 l) := by kernel_rfl
theorem pr5 (l : Int) (m a : Bool) (ao : Option Addr) (n c : Nat) (s e : Int) : (prCells l m a (.slice ao n c) s e)[5]? = some (.int .u16 0) := by kernel_rfl
theorem pr7 (l : Int) (m a : Bool) (ao : Option Addr) (n c : Nat) (s e : Int) : (prCells l m a (.slice ao n c) s e)[7]? = some (.bool a) := by kernel_rfl
theorem pr15 (l : Int) (m a : Bool) (ao : Option Addr) (n c : Nat) (s e : Int) : (prCells l m a (.slice ao n c) s e)[15]? = some (.slice ao n c) := by kernel_rfl
theorem set15 (l : Int) (m a : Bool) (ao bo : Option Addr) (n c n' c' : Nat) (s e : Int) : (prCells l m a (.slice ao n c) s e).setIfInBounds 15 (.slice bo n' c') = prCells l m a (.slice bo n' c') s e := by kernel_rfl

/-- a printer at block p, whose buffer (of the call's own, blocks from B on) reads as zs -/
def Pr (w : World) (B p : Nat) (l : Int) (m a : Bool) (zs : List Int) (s e : Int) : Prop :=
  ∃ ao c, Blk w p 59 (prCells l m a (.slice ao zs.length c) s e) ∧ Own .u8 5 w B (.slice ao zs.length c) zs ∧ (Value.slice ao zs.length c).ownBlock ≠ some p ∧ B ≤ p
/-- an object that is no row of bytes -/
def NB (o : Obj) : Prop := ∀ cs fr, o ≠ .cells cs 5 fr
theorem nb_cells {cs : Array Value} {t : TypeId} {fr : Nat × Nat} (h : t ≠ 5) : NB (.cells cs t fr) := fun _ _ e => h (by cases e; rfl)
theorem nb_iter (s : ByteArray) (i : Nat) : NB (.stringIter s i) := fun _ _ e => by cases e
/-- every object that is no row of bytes, but p, is as it was -/
def Keep (w w' : World) (p : Nat) : Prop := ∀ k o, w.heap[k]? = some o → NB o → k ≠ p → w'.heap[k]? = some o
theorem Keep.refl (w : World) (p : Nat) : Keep w w p := fun _ _ h _ _ => h
theorem Keep.trans {a b c : World} {p : Nat} (h : Keep a b p) (k : Keep b c p) : Keep a c p := fun i o h1 h2 h3 => k i o (h i o h1 h2 h3) h2 h3
theorem Keep.alloc {w w' : World} {p : Nat} (o : Obj) (h : Keep (w.alloc o) w' p) : Keep w w' p := fun i o' h1 h2 h3 => h i o' (blk_alloc h1 o) h2 h3
theorem Keep.blk {w w' : World} {p b : Nat} {t : TypeId} {cs : Array Value} (h : Keep w w' p) (hb : Blk w b t cs) (ht : t ≠ 5) (hne : b ≠ p) : Blk w' b t cs := h b _ hb (nb_cells ht) hne
theorem keep_gr {w w' : World} {B p : Nat} {v v' : Value} {zs : List Int} (ho : Own .u8 5 w B v zs) (h : Gr w v w' v') : Keep w w' p := by
  intro k o hk ht hne
  refine (h.1.block k (blk_lt hk) ?_).trans hk
  intro e
  rcases ho.2 with ⟨rfl, _⟩ | ⟨g, cap, cur, rfl, _, hg, _⟩
  · cases e
  · cases e
    rw [hk] at hg
    exact ht _ _ (Option.some.inj hg)
theorem keep_set {w w' : World} {p : Nat} (h : Keep w w' p) (i : Nat) (x : Value) : Keep w (w'.setCell ⟨p, i, none⟩ x) p := fun k o h1 h2 h3 => blk_set_ne (h k o h1 h2 h3) h3 _ _ _
theorem pr_alloc {w : World} {B p : Nat} {l : Int} {m a : Bool} {zs : List Int} {s e : Int} (h : Pr w B p l m a zs s e) (o : Obj) : Pr (w.alloc o) B p l m a zs s e := by
  obtain ⟨ao, c, h1, h2, h3, h4⟩ := h
  exact ⟨ao, c, h1.alloc o, h2.alloc o, h3, h4⟩
end Go.Proofs.YtemohaonhcmpkaaFmt
