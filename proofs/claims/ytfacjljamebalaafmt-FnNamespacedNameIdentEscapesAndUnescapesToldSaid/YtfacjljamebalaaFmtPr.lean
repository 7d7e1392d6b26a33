/-
  The css printer's state as the laws of this seat use it, and the walks of its small methods. No statement of the seat is proved here.
-/
import Derived.Test.YtfacjljamebalaaFmtRows
import Derived.WalkKit
import Derived.ProofKit
import Derived.WalkSpells
import Derived.WalkLawsBesides
import Derived.LoopTactic
import Derived.RegionTactic
import Derived.ChangeAlike
import Derived.BigQuiet
import Derived.Deep.QuietTactic
import Derived.Deep.RegionWith
import Derived.OwnWalk
import Derived.WalkSmall
import Derived.Lib.IndexBytes
import Derived.Test.YtfacjljamebalaaFmtOwnStr
import Derived.Test.YtfacjljamebalaaFmtPus
import Derived.Test.YtfacjljamebalaaFmtShelf
namespace Go.Proofs.YtfacjljamebalaaFmt
open Go.RowKit
set_option linter.unusedVariables false
set_option linter.unusedSimpArgs false

theorem u8_info : (Tryf.prog.info? 5).map (fun i => (i.zero, i.size, i.bytes)) = some (some (.int .u8 0), 1, 1) := by kernel_rfl
noncomputable def optCells (l : Int) (m a : Bool) : Array Value := cellsOf ((Instr.build 44 #[(3, .int .i64 l), (6, .bool m), (7, .bool a)]).run Tryf.prog default)
noncomputable def prCells (l : Int) (m a : Bool) (v : Value) (s e : Int) : Array Value := cellsOf ((Instr.build 62 #[(0, .agg (optCells l m a)), (3, v), (8, .int .i64 s), (9, .int .i64 e)]).run Tryf.prog default)
theorem build44a (m a : Bool) (w : World) : (Instr.build 44 #[(6, .bool m), (7, .bool a)]).run Tryf.prog w = .ok (.agg (optCells 0 m a)) w := by kernel_rfl
theorem build44b (l : Int) (m a : Bool) (w : World) : (Instr.build 44 #[(3, .int .i64 l), (6, .bool m), (7, .bool a)]).run Tryf.prog w = .ok (.agg (optCells l m a)) w := by kernel_rfl
theorem build62a (l : Int) (m a : Bool) (ao : Option Addr) (n c : Nat) (w : World) : (Instr.build 62 #[(3, .slice ao n c), (0, .agg (optCells l m a))]).run Tryf.prog w = .ok (.agg (prCells l m a (.slice ao n c) 0 0)) w := by kernel_rfl
theorem build62b (l : Int) (m a : Bool) (ao : Option Addr) (n c : Nat) (w : World) : (Instr.build 62 #[(0, .agg (optCells l m a)), (3, .slice ao n c)]).run Tryf.prog w = .ok (.agg (prCells l m a (.slice ao n c) 0 0)) w := by kernel_rfl
theorem pr15 (l : Int) (m a : Bool) (ao : Option Addr) (n c : Nat) (s e : Int) : (prCells l m a (.slice ao n c) s e)[15]? = some (.slice ao n c) := by kernel_rfl
theorem pr41 (l : Int) (m a : Bool) (ao : Option Addr) (n c : Nat) (s e : Int) : (prCells l m a (.slice ao n c) s e)[41]? = some (.int .i64 s) := by kernel_rfl
theorem pr42 (l : Int) (m a : Bool) (ao : Option Addr) (n c : Nat) (s e : Int) : (prCells l m a (.slice ao n c) s e)[42]? = some (.int .i64 e) := by kernel_rfl
theorem set15 (l : Int) (m a : Bool) (ao bo : Option Addr) (n c n' c' : Nat) (s e : Int) : (prCells l m a (.slice ao n c) s e).setIfInBounds 15 (.slice bo n' c') = prCells l m a (.slice bo n' c') s e := by kernel_rfl
theorem set41 (l : Int) (m a : Bool) (ao : Option Addr) (n c : Nat) (s e x : Int) : (prCells l m a (.slice ao n c) s e).setIfInBounds 41 (.int .i64 x) = prCells l m a (.slice ao n c) x e := by kernel_rfl
theorem set42 (l : Int) (m a : Bool) (ao : Option Addr) (n c : Nat) (s e x : Int) : (prCells l m a (.slice ao n c) s e).setIfInBounds 42 (.int .i64 x) = prCells l m a (.slice ao n c) s x := by kernel_rfl

/-- a printer at block p, whose buffer (of the call's own, blocks from B on) reads as zs -/
def Pr (w : World) (B p : Nat) (l : Int) (m a : Bool) (zs : List Int) (s e : Int) : Prop :=
  ∃ ao c, Blk w p 62 (prCells l m a (.slice ao zs.length c) s e) ∧ Own .u8 5 w B (.slice ao zs.length c) zs ∧ (Value.slice ao zs.length c).ownBlock ≠ some p ∧ B ≤ p
/-- an object that is no row of bytes -/
def NB (o : Obj) : Prop := ∀ cs fr, o ≠ .cells cs 5 fr
theorem nb_cells {cs : Array Value} {t : TypeId} {fr : Nat × Nat} (h : t ≠ 5) : NB (.cells cs t fr) := fun _ _ e => h (by cases e; rfl)
theorem nb_iter (s : ByteArray) (i : Nat) : NB (.stringIter s i) := fun _ _ e => by cases e
/-- every object that is no row of bytes, but p, is as it was -/
def Keep (w w' : World) (p : Nat) : Prop := ∀ k o, w.heap[k]? = some o → NB o → k ≠ p → w'.heap[k]? = some o
theorem Keep.refl (w : World) (p : Nat) : Keep w w p := fun _ _ h _ _ => h
theorem Keep.trans {a b c : World} {p : Nat} (h : Keep a b p) (k : Keep b c p) : Keep a c p := fun i o h1 h2 h3 => k i o (h i o h1 h2 h3) h2 h3
theorem Keep.alloc {w w' : World} {p : Nat} (o : Obj) (h : Keep (w.alloc o) w' p) : Keep w w' p := fun i o' h1 h2 h3 => h i o' (blk_alloc h1 o) h2 h3
theorem Keep.blk {w w' : World} {p b : Nat} {t : TypeId} {cs : Array Value} (h : Keep w w' p) (hb : Blk w b t cs) (ht : t ≠ 5) (hne : b ≠ p) : Blk w' b t cs := h b _ hb (nb_cells ht) hne
theorem keep_gr {w w' : World} {B p : Nat} {v v' : Value} {zs : List Int} (ho : Own .u8 5 w B v zs) (h : Gr w v w' v') : Keep w w' p := by
  intro k o hk ht hne
  refine (h.1.block k (blk_lt hk) ?_).trans hk
  intro e
  rcases ho.2 with ⟨rfl, _⟩ | ⟨g, cap, cur, rfl, _, hg, _⟩
  · cases e
  · cases e
    rw [hk] at hg
    exact ht _ _ (Option.some.inj hg)
theorem keep_set {w w' : World} {p : Nat} (h : Keep w w' p) (i : Nat) (x : Value) : Keep w (w'.setCell ⟨p, i, none⟩ x) p := fun k o h1 h2 h3 => blk_set_ne (h k o h1 h2 h3) h3 _ _ _
theorem print_any (B p : Nat) (l : Int) (m a : Bool) (zs : List Int) (s e : Int) (t : ByteArray) (w : World) (hp : Pr w B p l m a zs s e) (hl : zs.length + t.size ≤ 140737488355328) (hB : B ≤ w.heap.size) :
    Calls Tryf.prog 20 #[.pointer (some ⟨p, 0, none⟩), .string t] w fun en w' => en = .returned (.tuple #[]) ∧ Pr w' B p l m a (zs ++ byt t) s e ∧ Below B w w' ∧ Keep w w' p := by
  obtain ⟨ao, c, hb, hown, hne, hBp⟩ := hp
  have c15 := (hb.cell 15).trans (pr15 _ _ _ _ _ _ _ _)
  have f15 := hb.free 15
  have hlt := hb.lt
  have HP := Lib.hid (And.intro hb (And.intro hown hne))
  clear hb hown hne
  go_enter Tryf.func20, Tryf.ntmps20
  go_wp2_with (at_builtin; refine wpList_push_string w rfl (.tmp 8) (.tmp 9) 30 9 rfl B 5 Tryf.underlying30 Tryf.underlying9 u8_info _ zs rfl HP.out.2.1 t rfl hl hB ?_; intro v' w1 ho1 hg1; obtain ⟨ao', cap', rfl, hin', hc', hf'⟩ := ho1.form; have hb1 := HP.out.1.gb hg1.1 (fun h => HP.out.2.2 h.symm); have c15' := (hb1.cell 15).trans (pr15 _ _ _ _ _ _ _ _); have f15' := hb1.free 15; have hlt' := hb1.lt; have HO := Lib.hid (And.intro hb1 (And.intro ho1 hg1)); clear hb1 ho1 hg1 hin' hc' hf')
  go_end0
  have hne' : (Value.slice ao' (zs ++ byt t).length cap').ownBlock ≠ some p := by
    rcases HO.out.2.2.2 with h | ⟨g, h, hg⟩
    · rw [h]; exact HP.out.2.2
    · rw [h]; intro c; cases c; omega
  refine ⟨rfl, ⟨ao', cap', ?_, HO.out.2.1.gb (gb_set (gb_refl _ _) 15 none _) (.inr hne'), hne', hBp⟩, (HO.out.2.2.below (Below.refl _ _) hB (fun g h => (HP.out.2.1.lt g h).1)).setCell hBp _, keep_set (keep_gr HP.out.2.1 HO.out.2.2) 15 _⟩
  have := HO.out.1.set 15 (.slice ao' (zs ++ byt t).length cap')
  rw [set15] at this
  rw [List.length_append] at this ⊢
  exact this
theorem pr_alloc {w : World} {B p : Nat} {l : Int} {m a : Bool} {zs : List Int} {s e : Int} (h : Pr w B p l m a zs s e) (o : Obj) : Pr (w.alloc o) B p l m a zs s e := by
  obtain ⟨ao, c, h1, h2, h3, h4⟩ := h
  exact ⟨ao, c, h1.alloc o, h2.alloc o, h3, h4⟩
/-- the printer that the law of the nth index makes -/
theorem new276_any (m a : Bool) (w : World) : Calls Tryf.prog 7 #[.slice none 0 0, .bool m, .bool a] w fun en w' => en = .returned (.pointer (some ⟨w.heap.size, 0, none⟩)) ∧ Pr w' w.heap.size w.heap.size 0 m a [] 0 0 ∧ Below w.heap.size w w' := by
  go_enter Tryf.func7, Tryf.ntmps7
  go_wp2_with (first | (refine wpList_build rfl 44 _ rfl [(6, .bool m), (7, .bool a)] rfl (optCells 0 m a) (build44a m a) ?_) | (refine wpList_build rfl 62 _ rfl [(3, .slice none 0 0), (0, .agg (optCells 0 m a))] rfl (prCells 0 m a (.slice none 0 0) 0 0) (build62a 0 m a none 0 0) ?_))
  go_ret
  exact ⟨rfl, ⟨none, 0, Blk.new _ _ _, Own.nil _ _ _ _, by simp [Value.ownBlock], Nat.le_refl _⟩, (Below.refl _ _).alloc (Nat.le_refl _) _⟩
theorem css276_any (B p : Nat) (l : Int) (m a : Bool) (zs : List Int) (s e : Int) (w : World) (hp : Pr w B p l m a zs s e) :
    Calls Tryf.prog 12 #[.pointer (some ⟨p, 0, none⟩)] w fun en w' => (∃ v, en = .returned v ∧ Own .u8 5 w B v zs) ∧ w = w' := by
  obtain ⟨ao, c, hb, hown, hne, hBp⟩ := hp
  have c15 := (hb.cell 15).trans (pr15 _ _ _ _ _ _ _ _)
  have hlt := hb.lt
  have HO := Lib.hid hown
  clear hb hown hne
  go_enter Tryf.func12, Tryf.ntmps12
  go_wp2
  go_ret
  exact ⟨⟨_, rfl, HO.out⟩, rfl⟩
end Go.Proofs.YtfacjljamebalaaFmt
