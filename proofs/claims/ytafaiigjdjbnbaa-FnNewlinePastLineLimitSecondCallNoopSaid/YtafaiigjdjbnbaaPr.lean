/-
  The css printer's state as the laws of this seat use it, and the walks of its small methods. No statement of the seat is proved here.
-/
import Derived.Test.YtafaiigjdjbnbaaRows
import Derived.WalkKit
import Derived.ProofKit
import Derived.WalkSpells
import Derived.WalkLawsBesides
import Derived.LoopTactic
import Derived.RegionTactic
import Derived.ChangeAlike
import Derived.BigQuiet
import Derived.Deep.QuietTactic
import Derived.Deep.RegionWith
import Derived.OwnWalk
import Derived.WalkSmall
import Derived.Lib.IndexBytes
import Derived.Test.YtafaiigjdjbnbaaOwnStr
import Derived.Test.YtafaiigjdjbnbaaShelf
namespace Go.Proofs.Ytafaiigjdjbnbaa
open Go.RowKit
set_option linter.unusedVariables false
set_option linter.unusedSimpArgs false

theorem u8_info : (Try.prog.info? 5).map (fun i => (i.zero, i.size, i.bytes)) = some (some (.int .u8 0), 1, 1) := by kernel_rfl
noncomputable def optCells (l : Int) (m a : Bool) : Array Value := cellsOf ((Instr.build 45 #[(3, .int .i64 l), (6, .bool m), (7, .bool a)]).run Try.prog default)
noncomputable def prCells (l : Int) (m a : Bool) (v : Value) (s e : Int) : Array Value := cellsOf ((Instr.build 63 #[(0, .agg (optCells l m a)), (3, v), (8, .int .i64 s), (9, .int .i64 e)]).run Try.prog default)
theorem build45a (m a : Bool) (w : World) : (Instr.build 45 #[(6, .bool m), (7, .bool a)]).run Try.prog w = .ok (.agg (optCells 0 m a)) w := by kernel_rfl
theorem build45b (l : Int) (m a : Bool) (w : World) : (Instr.build 45 #[(3, .int .i64 l), (6, .bool m), (7, .bool a)]).run Try.prog w = .ok (.agg (optCells l m a)) w := by kernel_rfl
theorem build63a (l : Int) (m a : Bool) (ao : Option Addr) (n c : Nat) (w : World) : (Instr.build 63 #[(3, .slice ao n c), (0, .agg (optCells l m a))]).run Try.prog w = .ok (.agg (prCells l m a (.slice ao n c) 0 0)) w := by kernel_rfl
theorem build63b (l : Int) (m a : Bool) (ao : Option Addr) (n c : Nat) (w : World) : (Instr.build 63 #[(0, .agg (optCells l m a)), (3, .slice ao n c)]).run Try.prog w = .ok (.agg (prCells l m a (.slice ao n c) 0 0)) w := by kernel_rfl
theorem pr15 (l : Int) (m a : Bool) (ao : Option Addr) (n c : Nat) (s e : Int) : (prCells l m a (.slice ao n c) s e)[15]? = some (.slice ao n c) := by kernel_rfl
theorem pr41 (l : Int) (m a : Bool) (ao : Option Addr) (n c : Nat) (s e : Int) : (prCells l m a (.slice ao n c) s e)[41]? = some (.int .i64 s) := by kernel_rfl
theorem pr42 (l : Int) (m a : Bool) (ao : Option Addr) (n c : Nat) (s e : Int) : (prCells l m a (.slice ao n c) s e)[42]? = some (.int .i64 e) := by kernel_rfl
theorem set15 (l : Int) (m a : Bool) (ao bo : Option Addr) (n c n' c' : Nat) (s e : Int) : (prCells l m a (.slice ao n c) s e).setIfInBounds 15 (.slice bo n' c') = prCells l m a (.slice bo n' c') s e := by kernel_rfl
theorem set41 (l : Int) (m a : Bool) (ao : Option Addr) (n c : Nat) (s e x : Int) : (prCells l m a (.slice ao n c) s e).setIfInBounds 41 (.int .i64 x) = prCells l m a (.slice ao n c) x e := by kernel_rfl
theorem set42 (l : Int) (m a : Bool) (ao : Option Addr) (n c : Nat) (s e x : Int) : (prCells l m a (.slice ao n c) s e).setIfInBounds 42 (.int .i64 x) = prCells l m a (.slice ao n c) s x := by kernel_rfl

/-- a printer at block p, whose buffer (of the call's own, blocks from B on) reads as zs -/
def Pr (w : World) (B p : Nat) (l : Int) (m a : Bool) (zs : List Int) (s e : Int) : Prop :=
  ∃ ao c, Blk w p 63 (prCells l m a (.slice ao zs.length c) s e) ∧ Own .u8 5 w B (.slice ao zs.length c) zs ∧ (Value.slice ao zs.length c).ownBlock ≠ some p ∧ B ≤ p
/-- every block of cells that are no bytes, but p, is as it was -/
def Keep (w w' : World) (p : Nat) : Prop := ∀ k cs t fr, w.heap[k]? = some (.cells cs t fr) → t ≠ 5 → k ≠ p → w'.heap[k]? = some (.cells cs t fr)
theorem Keep.refl (w : World) (p : Nat) : Keep w w p := fun _ _ _ _ h _ _ => h
theorem Keep.trans {a b c : World} {p : Nat} (h : Keep a b p) (k : Keep b c p) : Keep a c p := fun i cs t fr h1 h2 h3 => k i cs t fr (h i cs t fr h1 h2 h3) h2 h3
theorem Keep.alloc {w w' : World} {p : Nat} (o : Obj) (h : Keep (w.alloc o) w' p) : Keep w w' p := fun i cs t fr h1 h2 h3 => h i cs t fr (blk_alloc h1 o) h2 h3
theorem Keep.blk {w w' : World} {p b : Nat} {t : TypeId} {cs : Array Value} (h : Keep w w' p) (hb : Blk w b t cs) (ht : t ≠ 5) (hne : b ≠ p) : Blk w' b t cs := h b cs t (0, 0) hb ht hne
theorem keep_gr {w w' : World} {B p : Nat} {v v' : Value} {zs : List Int} (ho : Own .u8 5 w B v zs) (h : Gr w v w' v') : Keep w w' p := by
  intro k cs t fr hk ht hne
  refine (h.1.block k (blk_lt hk) ?_).trans hk
  intro e
  rcases ho.2 with ⟨rfl, _⟩ | ⟨g, cap, cur, rfl, _, hg, _⟩
  · cases e
  · cases e
    rw [hk] at hg
    cases hg
    exact ht rfl
theorem keep_set {w w' : World} {p : Nat} (h : Keep w w' p) (i : Nat) (x : Value) : Keep w (w'.setCell ⟨p, i, none⟩ x) p := fun k cs t fr h1 h2 h3 => blk_set_ne (h k cs t fr h1 h2 h3) h3 _ _ _
theorem print_any (B p : Nat) (l : Int) (m a : Bool) (zs : List Int) (s e : Int) (t : ByteArray) (w : World) (hp : Pr w B p l m a zs s e) (hl : zs.length + t.size ≤ 140737488355328) (hB : B ≤ w.heap.size) :
    Calls Try.prog 18 #[.pointer (some ⟨p, 0, none⟩), .string t] w fun en w' => en = .returned (.tuple #[]) ∧ Pr w' B p l m a (zs ++ byt t) s e ∧ Below B w w' ∧ Keep w w' p := by
  obtain ⟨ao, c, hb, hown, hne, hBp⟩ := hp
  have c15 := (hb.cell 15).trans (pr15 _ _ _ _ _ _ _ _)
  have f15 := hb.free 15
  have hlt := hb.lt
  have HP := Lib.hid (And.intro hb (And.intro hown hne))
  clear hb hown hne
  go_enter Try.func18, Try.ntmps18
  go_wp2_with (at_builtin; refine wpList_push_string w rfl (.tmp 8) (.tmp 9) 27 9 rfl B 5 Try.underlying27 Try.underlying9 u8_info _ zs rfl HP.out.2.1 t rfl hl hB ?_; intro v' w1 ho1 hg1; obtain ⟨ao', cap', rfl, hin', hc', hf'⟩ := ho1.form; have hb1 := HP.out.1.gb hg1.1 (fun h => HP.out.2.2 h.symm); have c15' := (hb1.cell 15).trans (pr15 _ _ _ _ _ _ _ _); have f15' := hb1.free 15; have hlt' := hb1.lt; have HO := Lib.hid (And.intro hb1 (And.intro ho1 hg1)); clear hb1 ho1 hg1 hin' hc' hf')
  go_end0
  have hne' : (Value.slice ao' (zs ++ byt t).length cap').ownBlock ≠ some p := by
    rcases HO.out.2.2.2 with h | ⟨g, h, hg⟩
    · rw [h]; exact HP.out.2.2
    · rw [h]; intro c; cases c; omega
  refine ⟨rfl, ⟨ao', cap', ?_, HO.out.2.1.gb (gb_set (gb_refl _ _) 15 none _) (.inr hne'), hne', hBp⟩, (HO.out.2.2.below (Below.refl _ _) hB (fun g h => (HP.out.2.1.lt g h).1)).setCell hBp _, keep_set (keep_gr HP.out.2.1 HO.out.2.2) 15 _⟩
  have := HO.out.1.set 15 (.slice ao' (zs ++ byt t).length cap')
  rw [set15] at this
  rw [List.length_append] at this ⊢
  exact this
theorem pr_alloc {w : World} {B p : Nat} {l : Int} {m a : Bool} {zs : List Int} {s e : Int} (h : Pr w B p l m a zs s e) (o : Obj) : Pr (w.alloc o) B p l m a zs s e := by
  obtain ⟨ao, c, h1, h2, h3, h4⟩ := h
  exact ⟨ao, c, h1.alloc o, h2.alloc o, h3, h4⟩
/-- the printer that the law of the nth index makes -/
theorem new276_any (m a : Bool) (w : World) : Calls Try.prog 6 #[.slice none 0 0, .bool m, .bool a] w fun en w' => en = .returned (.pointer (some ⟨w.heap.size, 0, none⟩)) ∧ Pr w' w.heap.size w.heap.size 0 m a [] 0 0 ∧ Below w.heap.size w w' := by
  go_enter Try.func6, Try.ntmps6
  go_wp2_with (first | (refine wpList_build rfl 45 _ rfl [(6, .bool m), (7, .bool a)] rfl (optCells 0 m a) (build45a m a) ?_) | (refine wpList_build rfl 63 _ rfl [(3, .slice none 0 0), (0, .agg (optCells 0 m a))] rfl (prCells 0 m a (.slice none 0 0) 0 0) (build63a 0 m a none 0 0) ?_))
  go_ret
  exact ⟨rfl, ⟨none, 0, Blk.new _ _ _, Own.nil _ _ _ _, by simp [Value.ownBlock], Nat.le_refl _⟩, (Below.refl _ _).alloc (Nat.le_refl _) _⟩
theorem css276_any (B p : Nat) (l : Int) (m a : Bool) (zs : List Int) (s e : Int) (w : World) (hp : Pr w B p l m a zs s e) :
    Calls Try.prog 8 #[.pointer (some ⟨p, 0, none⟩)] w fun en w' => (∃ v, en = .returned v ∧ Own .u8 5 w B v zs) ∧ w = w' := by
  obtain ⟨ao, c, hb, hown, hne, hBp⟩ := hp
  have c15 := (hb.cell 15).trans (pr15 _ _ _ _ _ _ _ _)
  have hlt := hb.lt
  have HO := Lib.hid hown
  clear hb hown hne
  go_enter Try.func8, Try.ntmps8
  go_wp2
  go_ret
  exact ⟨⟨_, rfl, HO.out⟩, rfl⟩
/-- the bytes that printNthIndex writes -/
def nthA (a : ByteArray) : List Int := if a.data.toList = [45, 49] then [45] else if a.data.toList = [49] then [] else byt a
def nthB (b : ByteArray) : List Int := if b.data.toList = [] then [] else if Lib.hasPrefix b.data.toList [45] then byt b else 43 :: byt b
def nthOut (a b : ByteArray) : List Int := if a.data.toList = [] then byt b else nthA a ++ 110 :: nthB b
theorem ba_of_list {s : ByteArray} {l : List UInt8} (h : s.data.toList = l) : s = ⟨l.toArray⟩ := by
  apply ByteArray.ext
  apply Array.ext'
  simpa using h
theorem sz45 : (⟨#[45]⟩ : ByteArray).size = 1 := rfl
theorem sz110 : (⟨#[110]⟩ : ByteArray).size = 1 := rfl
theorem sz43 : (⟨#[43]⟩ : ByteArray).size = 1 := rfl
theorem byt_lit (l : List UInt8) : byt ⟨l.toArray⟩ = l.map fun b => (b.toNat : Int) := by simp [byt]
theorem nth_ee (B p : Nat) (l : Int) (m a : Bool) (zs : List Int) (s e : Int) (w : World) (hp : Pr w B p l m a zs s e) (hl : zs.length + 8 ≤ 140737488355328) (hB : B ≤ w.heap.size) (hpl : p < w.heap.size) :
    Calls Try.prog 16 #[.pointer (some ⟨p, 0, none⟩), .agg #[.string ⟨#[]⟩, .string ⟨#[]⟩]] w fun en w' => en = .returned (.tuple #[]) ∧ Pr w' B p l m a zs s e ∧ Below B w w' ∧ Keep w w' p := by
  have H0 := Lib.hid (show Pr (w.alloc (.cells #[.string ⟨#[]⟩, .string ⟨#[]⟩] 66)) B p l m a zs s e ∧ Blk (w.alloc (.cells #[.string ⟨#[]⟩, .string ⟨#[]⟩] 66)) w.heap.size 66 #[.string ⟨#[]⟩, .string ⟨#[]⟩] ∧ Below B w (w.alloc (.cells #[.string ⟨#[]⟩, .string ⟨#[]⟩] 66)) ∧ Keep w (w.alloc (.cells #[.string ⟨#[]⟩, .string ⟨#[]⟩] 66)) p from ⟨pr_alloc hp _, Blk.new _ _ _, (Below.refl _ _).alloc hB _, Keep.alloc _ (Keep.refl _ _)⟩)
  clear hp
  go_enter Try.func16, Try.ntmps16
  go_wp2_with fail
  go_end0
  exact ⟨rfl, H0.out.1, H0.out.2.2.1, H0.out.2.2.2⟩
theorem nth_eq (B p : Nat) (l : Int) (m a : Bool) (zs : List Int) (s e : Int) (y : ByteArray) (y1 : y.toList.isEmpty = false) (y5 : ¬ y.toList = []) (w : World) (hp : Pr w B p l m a zs s e) (hl : zs.length + y.size + 8 ≤ 140737488355328) (hB : B ≤ w.heap.size) (hpl : p < w.heap.size) :
    Calls Try.prog 16 #[.pointer (some ⟨p, 0, none⟩), .agg #[.string ⟨#[]⟩, .string y]] w fun en w' => en = .returned (.tuple #[]) ∧ Pr w' B p l m a (zs ++ byt y) s e ∧ Below B w w' ∧ Keep w w' p := by
  have H0 := Lib.hid (show Pr (w.alloc (.cells #[.string ⟨#[]⟩, .string y] 66)) B p l m a zs s e ∧ Blk (w.alloc (.cells #[.string ⟨#[]⟩, .string y] 66)) w.heap.size 66 #[.string ⟨#[]⟩, .string y] ∧ Below B w (w.alloc (.cells #[.string ⟨#[]⟩, .string y] 66)) ∧ Keep w (w.alloc (.cells #[.string ⟨#[]⟩, .string y] 66)) p from ⟨pr_alloc hp _, Blk.new _ _ _, (Below.refl _ _).alloc hB _, Keep.alloc _ (Keep.refl _ _)⟩)
  clear hp
  go_enter Try.func16, Try.ntmps16
  go_wp2_with fail
  refine (print_any B p l m a _ s e _ _ H0.out.1 (by omega) (Nat.le_trans hB H0.out.2.2.1.size)).mono ?_
  rintro en w1 ⟨rfl, p1, b1, k1⟩
  have H1 := Lib.hid (And.intro p1 (And.intro (k1.blk H0.out.2.1 (by decide) (by omega)) (And.intro (H0.out.2.2.1.trans b1) (H0.out.2.2.2.trans k1))))
  obtain ⟨q1, r1, z1⟩ := H1.out.2.1.two
  clear p1 b1 k1
  go_wp2_with fail
  go_end0
  exact ⟨rfl, H1.out.1, H1.out.2.2.1, H1.out.2.2.2⟩
theorem nth_me (B p : Nat) (l : Int) (m a : Bool) (zs : List Int) (s e : Int) (w : World) (hp : Pr w B p l m a zs s e) (hl : zs.length + 8 ≤ 140737488355328) (hB : B ≤ w.heap.size) (hpl : p < w.heap.size) :
    Calls Try.prog 16 #[.pointer (some ⟨p, 0, none⟩), .agg #[.string ⟨#[45, 49]⟩, .string ⟨#[]⟩]] w fun en w' => en = .returned (.tuple #[]) ∧ Pr w' B p l m a ((zs ++ byt ⟨#[45]⟩) ++ byt ⟨#[110]⟩) s e ∧ Below B w w' ∧ Keep w w' p := by
  have H0 := Lib.hid (show Pr (w.alloc (.cells #[.string ⟨#[45, 49]⟩, .string ⟨#[]⟩] 66)) B p l m a zs s e ∧ Blk (w.alloc (.cells #[.string ⟨#[45, 49]⟩, .string ⟨#[]⟩] 66)) w.heap.size 66 #[.string ⟨#[45, 49]⟩, .string ⟨#[]⟩] ∧ Below B w (w.alloc (.cells #[.string ⟨#[45, 49]⟩, .string ⟨#[]⟩] 66)) ∧ Keep w (w.alloc (.cells #[.string ⟨#[45, 49]⟩, .string ⟨#[]⟩] 66)) p from ⟨pr_alloc hp _, Blk.new _ _ _, (Below.refl _ _).alloc hB _, Keep.alloc _ (Keep.refl _ _)⟩)
  clear hp
  go_enter Try.func16, Try.ntmps16
  go_wp2_with fail
  refine (print_any B p l m a _ s e _ _ H0.out.1 (by simp only [sz45]; omega) (Nat.le_trans hB H0.out.2.2.1.size)).mono ?_
  rintro en w1 ⟨rfl, p1, b1, k1⟩
  have H1 := Lib.hid (And.intro p1 (And.intro (k1.blk H0.out.2.1 (by decide) (by omega)) (And.intro (H0.out.2.2.1.trans b1) (H0.out.2.2.2.trans k1))))
  obtain ⟨q1, r1, z1⟩ := H1.out.2.1.two
  clear p1 b1 k1
  go_wp2_with fail
  refine (print_any B p l m a _ s e _ _ H1.out.1 (by simp only [List.length_append, byt_length, sz45, sz110]; omega) (Nat.le_trans hB H1.out.2.2.1.size)).mono ?_
  rintro en w2 ⟨rfl, p2, b2, k2⟩
  have H2 := Lib.hid (And.intro p2 (And.intro (k2.blk H1.out.2.1 (by decide) (by omega)) (And.intro (H1.out.2.2.1.trans b2) (H1.out.2.2.2.trans k2))))
  obtain ⟨q2, r2, z2⟩ := H2.out.2.1.two
  clear p2 b2 k2
  go_wp2_with fail
  go_end0
  exact ⟨rfl, H2.out.1, H2.out.2.2.1, H2.out.2.2.2⟩
theorem nth_mp (B p : Nat) (l : Int) (m a : Bool) (zs : List Int) (s e : Int) (y : ByteArray) (y1 : y.toList.isEmpty = false) (y5 : ¬ y.toList = []) (y2 : Lib.hasPrefix y.data.toList [45] = true) (w : World) (hp : Pr w B p l m a zs s e) (hl : zs.length + y.size + 8 ≤ 140737488355328) (hB : B ≤ w.heap.size) (hpl : p < w.heap.size) :
    Calls Try.prog 16 #[.pointer (some ⟨p, 0, none⟩), .agg #[.string ⟨#[45, 49]⟩, .string y]] w fun en w' => en = .returned (.tuple #[]) ∧ Pr w' B p l m a (((zs ++ byt ⟨#[45]⟩) ++ byt ⟨#[110]⟩) ++ byt y) s e ∧ Below B w w' ∧ Keep w w' p := by
  have H0 := Lib.hid (show Pr (w.alloc (.cells #[.string ⟨#[45, 49]⟩, .string y] 66)) B p l m a zs s e ∧ Blk (w.alloc (.cells #[.string ⟨#[45, 49]⟩, .string y] 66)) w.heap.size 66 #[.string ⟨#[45, 49]⟩, .string y] ∧ Below B w (w.alloc (.cells #[.string ⟨#[45, 49]⟩, .string y] 66)) ∧ Keep w (w.alloc (.cells #[.string ⟨#[45, 49]⟩, .string y] 66)) p from ⟨pr_alloc hp _, Blk.new _ _ _, (Below.refl _ _).alloc hB _, Keep.alloc _ (Keep.refl _ _)⟩)
  clear hp
  go_enter Try.func16, Try.ntmps16
  go_wp2_with fail
  refine (print_any B p l m a _ s e _ _ H0.out.1 (by simp only [sz45]; omega) (Nat.le_trans hB H0.out.2.2.1.size)).mono ?_
  rintro en w1 ⟨rfl, p1, b1, k1⟩
  have H1 := Lib.hid (And.intro p1 (And.intro (k1.blk H0.out.2.1 (by decide) (by omega)) (And.intro (H0.out.2.2.1.trans b1) (H0.out.2.2.2.trans k1))))
  obtain ⟨q1, r1, z1⟩ := H1.out.2.1.two
  clear p1 b1 k1
  go_wp2_with fail
  refine (print_any B p l m a _ s e _ _ H1.out.1 (by simp only [List.length_append, byt_length, sz45, sz110]; omega) (Nat.le_trans hB H1.out.2.2.1.size)).mono ?_
  rintro en w2 ⟨rfl, p2, b2, k2⟩
  have H2 := Lib.hid (And.intro p2 (And.intro (k2.blk H1.out.2.1 (by decide) (by omega)) (And.intro (H1.out.2.2.1.trans b2) (H1.out.2.2.2.trans k2))))
  obtain ⟨q2, r2, z2⟩ := H2.out.2.1.two
  clear p2 b2 k2
  go_wp2_with fail
  refine (Try.strings_HasPrefix _ _ _).mono ?_
  rintro en wh ⟨rfl, rfl⟩
  rw [y2]
  go_wp2_with fail
  refine (print_any B p l m a _ s e _ _ H2.out.1 (by simp only [List.length_append, byt_length, sz45, sz110]; omega) (Nat.le_trans hB H2.out.2.2.1.size)).mono ?_
  rintro en w3 ⟨rfl, p3, b3, k3⟩
  have H3 := Lib.hid (And.intro p3 (And.intro (k3.blk H2.out.2.1 (by decide) (by omega)) (And.intro (H2.out.2.2.1.trans b3) (H2.out.2.2.2.trans k3))))
  obtain ⟨q3, r3, z3⟩ := H3.out.2.1.two
  clear p3 b3 k3
  go_wp2_with fail
  go_end0
  exact ⟨rfl, H3.out.1, H3.out.2.2.1, H3.out.2.2.2⟩
theorem nth_mq (B p : Nat) (l : Int) (m a : Bool) (zs : List Int) (s e : Int) (y : ByteArray) (y1 : y.toList.isEmpty = false) (y5 : ¬ y.toList = []) (y2 : Lib.hasPrefix y.data.toList [45] = false) (w : World) (hp : Pr w B p l m a zs s e) (hl : zs.length + y.size + 8 ≤ 140737488355328) (hB : B ≤ w.heap.size) (hpl : p < w.heap.size) :
    Calls Try.prog 16 #[.pointer (some ⟨p, 0, none⟩), .agg #[.string ⟨#[45, 49]⟩, .string y]] w fun en w' => en = .returned (.tuple #[]) ∧ Pr w' B p l m a ((((zs ++ byt ⟨#[45]⟩) ++ byt ⟨#[110]⟩) ++ byt ⟨#[43]⟩) ++ byt y) s e ∧ Below B w w' ∧ Keep w w' p := by
  have H0 := Lib.hid (show Pr (w.alloc (.cells #[.string ⟨#[45, 49]⟩, .string y] 66)) B p l m a zs s e ∧ Blk (w.alloc (.cells #[.string ⟨#[45, 49]⟩, .string y] 66)) w.heap.size 66 #[.string ⟨#[45, 49]⟩, .string y] ∧ Below B w (w.alloc (.cells #[.string ⟨#[45, 49]⟩, .string y] 66)) ∧ Keep w (w.alloc (.cells #[.string ⟨#[45, 49]⟩, .string y] 66)) p from ⟨pr_alloc hp _, Blk.new _ _ _, (Below.refl _ _).alloc hB _, Keep.alloc _ (Keep.refl _ _)⟩)
  clear hp
  go_enter Try.func16, Try.ntmps16
  go_wp2_with fail
  refine (print_any B p l m a _ s e _ _ H0.out.1 (by simp only [sz45]; omega) (Nat.le_trans hB H0.out.2.2.1.size)).mono ?_
  rintro en w1 ⟨rfl, p1, b1, k1⟩
  have H1 := Lib.hid (And.intro p1 (And.intro (k1.blk H0.out.2.1 (by decide) (by omega)) (And.intro (H0.out.2.2.1.trans b1) (H0.out.2.2.2.trans k1))))
  obtain ⟨q1, r1, z1⟩ := H1.out.2.1.two
  clear p1 b1 k1
  go_wp2_with fail
  refine (print_any B p l m a _ s e _ _ H1.out.1 (by simp only [List.length_append, byt_length, sz45, sz110]; omega) (Nat.le_trans hB H1.out.2.2.1.size)).mono ?_
  rintro en w2 ⟨rfl, p2, b2, k2⟩
  have H2 := Lib.hid (And.intro p2 (And.intro (k2.blk H1.out.2.1 (by decide) (by omega)) (And.intro (H1.out.2.2.1.trans b2) (H1.out.2.2.2.trans k2))))
  obtain ⟨q2, r2, z2⟩ := H2.out.2.1.two
  clear p2 b2 k2
  go_wp2_with fail
  refine (Try.strings_HasPrefix _ _ _).mono ?_
  rintro en wh ⟨rfl, rfl⟩
  rw [y2]
  go_wp2_with fail
  refine (print_any B p l m a _ s e _ _ H2.out.1 (by simp only [List.length_append, byt_length, sz45, sz110, sz43]; omega) (Nat.le_trans hB H2.out.2.2.1.size)).mono ?_
  rintro en w3 ⟨rfl, p3, b3, k3⟩
  have H3 := Lib.hid (And.intro p3 (And.intro (k3.blk H2.out.2.1 (by decide) (by omega)) (And.intro (H2.out.2.2.1.trans b3) (H2.out.2.2.2.trans k3))))
  obtain ⟨q3, r3, z3⟩ := H3.out.2.1.two
  clear p3 b3 k3
  go_wp2_with fail
  refine (print_any B p l m a _ s e _ _ H3.out.1 (by simp only [List.length_append, byt_length, sz45, sz110, sz43]; omega) (Nat.le_trans hB H3.out.2.2.1.size)).mono ?_
  rintro en w4 ⟨rfl, p4, b4, k4⟩
  have H4 := Lib.hid (And.intro p4 (And.intro (k4.blk H3.out.2.1 (by decide) (by omega)) (And.intro (H3.out.2.2.1.trans b4) (H3.out.2.2.2.trans k4))))
  obtain ⟨q4, r4, z4⟩ := H4.out.2.1.two
  clear p4 b4 k4
  go_wp2_with fail
  go_end0
  exact ⟨rfl, H4.out.1, H4.out.2.2.1, H4.out.2.2.2⟩
theorem nth_oe (B p : Nat) (l : Int) (m a : Bool) (zs : List Int) (s e : Int) (w : World) (hp : Pr w B p l m a zs s e) (hl : zs.length + 8 ≤ 140737488355328) (hB : B ≤ w.heap.size) (hpl : p < w.heap.size) :
    Calls Try.prog 16 #[.pointer (some ⟨p, 0, none⟩), .agg #[.string ⟨#[49]⟩, .string ⟨#[]⟩]] w fun en w' => en = .returned (.tuple #[]) ∧ Pr w' B p l m a (zs ++ byt ⟨#[110]⟩) s e ∧ Below B w w' ∧ Keep w w' p := by
  have H0 := Lib.hid (show Pr (w.alloc (.cells #[.string ⟨#[49]⟩, .string ⟨#[]⟩] 66)) B p l m a zs s e ∧ Blk (w.alloc (.cells #[.string ⟨#[49]⟩, .string ⟨#[]⟩] 66)) w.heap.size 66 #[.string ⟨#[49]⟩, .string ⟨#[]⟩] ∧ Below B w (w.alloc (.cells #[.string ⟨#[49]⟩, .string ⟨#[]⟩] 66)) ∧ Keep w (w.alloc (.cells #[.string ⟨#[49]⟩, .string ⟨#[]⟩] 66)) p from ⟨pr_alloc hp _, Blk.new _ _ _, (Below.refl _ _).alloc hB _, Keep.alloc _ (Keep.refl _ _)⟩)
  clear hp
  go_enter Try.func16, Try.ntmps16
  go_wp2_with fail
  refine (print_any B p l m a _ s e _ _ H0.out.1 (by simp only [sz110]; omega) (Nat.le_trans hB H0.out.2.2.1.size)).mono ?_
  rintro en w1 ⟨rfl, p1, b1, k1⟩
  have H1 := Lib.hid (And.intro p1 (And.intro (k1.blk H0.out.2.1 (by decide) (by omega)) (And.intro (H0.out.2.2.1.trans b1) (H0.out.2.2.2.trans k1))))
  obtain ⟨q1, r1, z1⟩ := H1.out.2.1.two
  clear p1 b1 k1
  go_wp2_with fail
  go_end0
  exact ⟨rfl, H1.out.1, H1.out.2.2.1, H1.out.2.2.2⟩
theorem nth_op (B p : Nat) (l : Int) (m a : Bool) (zs : List Int) (s e : Int) (y : ByteArray) (y1 : y.toList.isEmpty = false) (y5 : ¬ y.toList = []) (y2 : Lib.hasPrefix y.data.toList [45] = true) (w : World) (hp : Pr w B p l m a zs s e) (hl : zs.length + y.size + 8 ≤ 140737488355328) (hB : B ≤ w.heap.size) (hpl : p < w.heap.size) :
    Calls Try.prog 16 #[.pointer (some ⟨p, 0, none⟩), .agg #[.string ⟨#[49]⟩, .string y]] w fun en w' => en = .returned (.tuple #[]) ∧ Pr w' B p l m a ((zs ++ byt ⟨#[110]⟩) ++ byt y) s e ∧ Below B w w' ∧ Keep w w' p := by
  have H0 := Lib.hid (show Pr (w.alloc (.cells #[.string ⟨#[49]⟩, .string y] 66)) B p l m a zs s e ∧ Blk (w.alloc (.cells #[.string ⟨#[49]⟩, .string y] 66)) w.heap.size 66 #[.string ⟨#[49]⟩, .string y] ∧ Below B w (w.alloc (.cells #[.string ⟨#[49]⟩, .string y] 66)) ∧ Keep w (w.alloc (.cells #[.string ⟨#[49]⟩, .string y] 66)) p from ⟨pr_alloc hp _, Blk.new _ _ _, (Below.refl _ _).alloc hB _, Keep.alloc _ (Keep.refl _ _)⟩)
  clear hp
  go_enter Try.func16, Try.ntmps16
  go_wp2_with fail
  refine (print_any B p l m a _ s e _ _ H0.out.1 (by simp only [sz110]; omega) (Nat.le_trans hB H0.out.2.2.1.size)).mono ?_
  rintro en w1 ⟨rfl, p1, b1, k1⟩
  have H1 := Lib.hid (And.intro p1 (And.intro (k1.blk H0.out.2.1 (by decide) (by omega)) (And.intro (H0.out.2.2.1.trans b1) (H0.out.2.2.2.trans k1))))
  obtain ⟨q1, r1, z1⟩ := H1.out.2.1.two
  clear p1 b1 k1
  go_wp2_with fail
  refine (Try.strings_HasPrefix _ _ _).mono ?_
  rintro en wh ⟨rfl, rfl⟩
  rw [y2]
  go_wp2_with fail
  refine (print_any B p l m a _ s e _ _ H1.out.1 (by simp only [List.length_append, byt_length, sz110]; omega) (Nat.le_trans hB H1.out.2.2.1.size)).mono ?_
  rintro en w2 ⟨rfl, p2, b2, k2⟩
  have H2 := Lib.hid (And.intro p2 (And.intro (k2.blk H1.out.2.1 (by decide) (by omega)) (And.intro (H1.out.2.2.1.trans b2) (H1.out.2.2.2.trans k2))))
  obtain ⟨q2, r2, z2⟩ := H2.out.2.1.two
  clear p2 b2 k2
  go_wp2_with fail
  go_end0
  exact ⟨rfl, H2.out.1, H2.out.2.2.1, H2.out.2.2.2⟩
theorem nth_oq (B p : Nat) (l : Int) (m a : Bool) (zs : List Int) (s e : Int) (y : ByteArray) (y1 : y.toList.isEmpty = false) (y5 : ¬ y.toList = []) (y2 : Lib.hasPrefix y.data.toList [45] = false) (w : World) (hp : Pr w B p l m a zs s e) (hl : zs.length + y.size + 8 ≤ 140737488355328) (hB : B ≤ w.heap.size) (hpl : p < w.heap.size) :
    Calls Try.prog 16 #[.pointer (some ⟨p, 0, none⟩), .agg #[.string ⟨#[49]⟩, .string y]] w fun en w' => en = .returned (.tuple #[]) ∧ Pr w' B p l m a (((zs ++ byt ⟨#[110]⟩) ++ byt ⟨#[43]⟩) ++ byt y) s e ∧ Below B w w' ∧ Keep w w' p := by
  have H0 := Lib.hid (show Pr (w.alloc (.cells #[.string ⟨#[49]⟩, .string y] 66)) B p l m a zs s e ∧ Blk (w.alloc (.cells #[.string ⟨#[49]⟩, .string y] 66)) w.heap.size 66 #[.string ⟨#[49]⟩, .string y] ∧ Below B w (w.alloc (.cells #[.string ⟨#[49]⟩, .string y] 66)) ∧ Keep w (w.alloc (.cells #[.string ⟨#[49]⟩, .string y] 66)) p from ⟨pr_alloc hp _, Blk.new _ _ _, (Below.refl _ _).alloc hB _, Keep.alloc _ (Keep.refl _ _)⟩)
  clear hp
  go_enter Try.func16, Try.ntmps16
  go_wp2_with fail
  refine (print_any B p l m a _ s e _ _ H0.out.1 (by simp only [sz110]; omega) (Nat.le_trans hB H0.out.2.2.1.size)).mono ?_
  rintro en w1 ⟨rfl, p1, b1, k1⟩
  have H1 := Lib.hid (And.intro p1 (And.intro (k1.blk H0.out.2.1 (by decide) (by omega)) (And.intro (H0.out.2.2.1.trans b1) (H0.out.2.2.2.trans k1))))
  obtain ⟨q1, r1, z1⟩ := H1.out.2.1.two
  clear p1 b1 k1
  go_wp2_with fail
  refine (Try.strings_HasPrefix _ _ _).mono ?_
  rintro en wh ⟨rfl, rfl⟩
  rw [y2]
  go_wp2_with fail
  refine (print_any B p l m a _ s e _ _ H1.out.1 (by simp only [List.length_append, byt_length, sz110, sz43]; omega) (Nat.le_trans hB H1.out.2.2.1.size)).mono ?_
  rintro en w2 ⟨rfl, p2, b2, k2⟩
  have H2 := Lib.hid (And.intro p2 (And.intro (k2.blk H1.out.2.1 (by decide) (by omega)) (And.intro (H1.out.2.2.1.trans b2) (H1.out.2.2.2.trans k2))))
  obtain ⟨q2, r2, z2⟩ := H2.out.2.1.two
  clear p2 b2 k2
  go_wp2_with fail
  refine (print_any B p l m a _ s e _ _ H2.out.1 (by simp only [List.length_append, byt_length, sz110, sz43]; omega) (Nat.le_trans hB H2.out.2.2.1.size)).mono ?_
  rintro en w3 ⟨rfl, p3, b3, k3⟩
  have H3 := Lib.hid (And.intro p3 (And.intro (k3.blk H2.out.2.1 (by decide) (by omega)) (And.intro (H2.out.2.2.1.trans b3) (H2.out.2.2.2.trans k3))))
  obtain ⟨q3, r3, z3⟩ := H3.out.2.1.two
  clear p3 b3 k3
  go_wp2_with fail
  go_end0
  exact ⟨rfl, H3.out.1, H3.out.2.2.1, H3.out.2.2.2⟩
theorem nth_xe (B p : Nat) (l : Int) (m a : Bool) (zs : List Int) (s e : Int) (x : ByteArray) (x1 : x.toList.isEmpty = false) (x2 : (x.toList == [45, 49]) = false) (x3 : (x.toList == [49]) = false) (x4 : (x.toList != [49]) = true) (x5 : ¬ x.toList = []) (w : World) (hp : Pr w B p l m a zs s e) (hl : zs.length + x.size + 8 ≤ 140737488355328) (hB : B ≤ w.heap.size) (hpl : p < w.heap.size) :
    Calls Try.prog 16 #[.pointer (some ⟨p, 0, none⟩), .agg #[.string x, .string ⟨#[]⟩]] w fun en w' => en = .returned (.tuple #[]) ∧ Pr w' B p l m a ((zs ++ byt x) ++ byt ⟨#[110]⟩) s e ∧ Below B w w' ∧ Keep w w' p := by
  have hx0 : x.size ≤ 140737488355328 := by omega
  have H0 := Lib.hid (show Pr (w.alloc (.cells #[.string x, .string ⟨#[]⟩] 66)) B p l m a zs s e ∧ Blk (w.alloc (.cells #[.string x, .string ⟨#[]⟩] 66)) w.heap.size 66 #[.string x, .string ⟨#[]⟩] ∧ Below B w (w.alloc (.cells #[.string x, .string ⟨#[]⟩] 66)) ∧ Keep w (w.alloc (.cells #[.string x, .string ⟨#[]⟩] 66)) p from ⟨pr_alloc hp _, Blk.new _ _ _, (Below.refl _ _).alloc hB _, Keep.alloc _ (Keep.refl _ _)⟩)
  clear hp
  go_enter Try.func16, Try.ntmps16
  go_wp2_with fail
  refine (print_any B p l m a _ s e _ _ H0.out.1 (by omega) (Nat.le_trans hB H0.out.2.2.1.size)).mono ?_
  rintro en w1 ⟨rfl, p1, b1, k1⟩
  have H1 := Lib.hid (And.intro p1 (And.intro (k1.blk H0.out.2.1 (by decide) (by omega)) (And.intro (H0.out.2.2.1.trans b1) (H0.out.2.2.2.trans k1))))
  obtain ⟨q1, r1, z1⟩ := H1.out.2.1.two
  clear p1 b1 k1
  go_wp2_with fail
  refine (print_any B p l m a _ s e _ _ H1.out.1 (by simp only [List.length_append, byt_length, sz110]; omega) (Nat.le_trans hB H1.out.2.2.1.size)).mono ?_
  rintro en w2 ⟨rfl, p2, b2, k2⟩
  have H2 := Lib.hid (And.intro p2 (And.intro (k2.blk H1.out.2.1 (by decide) (by omega)) (And.intro (H1.out.2.2.1.trans b2) (H1.out.2.2.2.trans k2))))
  obtain ⟨q2, r2, z2⟩ := H2.out.2.1.two
  clear p2 b2 k2
  go_wp2_with fail
  go_end0
  exact ⟨rfl, H2.out.1, H2.out.2.2.1, H2.out.2.2.2⟩
theorem nth_xp (B p : Nat) (l : Int) (m a : Bool) (zs : List Int) (s e : Int) (x : ByteArray) (x1 : x.toList.isEmpty = false) (x2 : (x.toList == [45, 49]) = false) (x3 : (x.toList == [49]) = false) (x4 : (x.toList != [49]) = true) (x5 : ¬ x.toList = []) (y : ByteArray) (y1 : y.toList.isEmpty = false) (y5 : ¬ y.toList = []) (y2 : Lib.hasPrefix y.data.toList [45] = true) (w : World) (hp : Pr w B p l m a zs s e) (hl : zs.length + x.size + y.size + 8 ≤ 140737488355328) (hB : B ≤ w.heap.size) (hpl : p < w.heap.size) :
    Calls Try.prog 16 #[.pointer (some ⟨p, 0, none⟩), .agg #[.string x, .string y]] w fun en w' => en = .returned (.tuple #[]) ∧ Pr w' B p l m a (((zs ++ byt x) ++ byt ⟨#[110]⟩) ++ byt y) s e ∧ Below B w w' ∧ Keep w w' p := by
  have hx0 : x.size ≤ 140737488355328 := by omega
  have H0 := Lib.hid (show Pr (w.alloc (.cells #[.string x, .string y] 66)) B p l m a zs s e ∧ Blk (w.alloc (.cells #[.string x, .string y] 66)) w.heap.size 66 #[.string x, .string y] ∧ Below B w (w.alloc (.cells #[.string x, .string y] 66)) ∧ Keep w (w.alloc (.cells #[.string x, .string y] 66)) p from ⟨pr_alloc hp _, Blk.new _ _ _, (Below.refl _ _).alloc hB _, Keep.alloc _ (Keep.refl _ _)⟩)
  clear hp
  go_enter Try.func16, Try.ntmps16
  go_wp2_with fail
  refine (print_any B p l m a _ s e _ _ H0.out.1 (by omega) (Nat.le_trans hB H0.out.2.2.1.size)).mono ?_
  rintro en w1 ⟨rfl, p1, b1, k1⟩
  have H1 := Lib.hid (And.intro p1 (And.intro (k1.blk H0.out.2.1 (by decide) (by omega)) (And.intro (H0.out.2.2.1.trans b1) (H0.out.2.2.2.trans k1))))
  obtain ⟨q1, r1, z1⟩ := H1.out.2.1.two
  clear p1 b1 k1
  go_wp2_with fail
  refine (print_any B p l m a _ s e _ _ H1.out.1 (by simp only [List.length_append, byt_length, sz110]; omega) (Nat.le_trans hB H1.out.2.2.1.size)).mono ?_
  rintro en w2 ⟨rfl, p2, b2, k2⟩
  have H2 := Lib.hid (And.intro p2 (And.intro (k2.blk H1.out.2.1 (by decide) (by omega)) (And.intro (H1.out.2.2.1.trans b2) (H1.out.2.2.2.trans k2))))
  obtain ⟨q2, r2, z2⟩ := H2.out.2.1.two
  clear p2 b2 k2
  go_wp2_with fail
  refine (Try.strings_HasPrefix _ _ _).mono ?_
  rintro en wh ⟨rfl, rfl⟩
  rw [y2]
  go_wp2_with fail
  refine (print_any B p l m a _ s e _ _ H2.out.1 (by simp only [List.length_append, byt_length, sz110]; omega) (Nat.le_trans hB H2.out.2.2.1.size)).mono ?_
  rintro en w3 ⟨rfl, p3, b3, k3⟩
  have H3 := Lib.hid (And.intro p3 (And.intro (k3.blk H2.out.2.1 (by decide) (by omega)) (And.intro (H2.out.2.2.1.trans b3) (H2.out.2.2.2.trans k3))))
  obtain ⟨q3, r3, z3⟩ := H3.out.2.1.two
  clear p3 b3 k3
  go_wp2_with fail
  go_end0
  exact ⟨rfl, H3.out.1, H3.out.2.2.1, H3.out.2.2.2⟩
theorem nth_xq (B p : Nat) (l : Int) (m a : Bool) (zs : List Int) (s e : Int) (x : ByteArray) (x1 : x.toList.isEmpty = false) (x2 : (x.toList == [45, 49]) = false) (x3 : (x.toList == [49]) = false) (x4 : (x.toList != [49]) = true) (x5 : ¬ x.toList = []) (y : ByteArray) (y1 : y.toList.isEmpty = false) (y5 : ¬ y.toList = []) (y2 : Lib.hasPrefix y.data.toList [45] = false) (w : World) (hp : Pr w B p l m a zs s e) (hl : zs.length + x.size + y.size + 8 ≤ 140737488355328) (hB : B ≤ w.heap.size) (hpl : p < w.heap.size) :
    Calls Try.prog 16 #[.pointer (some ⟨p, 0, none⟩), .agg #[.string x, .string y]] w fun en w' => en = .returned (.tuple #[]) ∧ Pr w' B p l m a ((((zs ++ byt x) ++ byt ⟨#[110]⟩) ++ byt ⟨#[43]⟩) ++ byt y) s e ∧ Below B w w' ∧ Keep w w' p := by
  have hx0 : x.size ≤ 140737488355328 := by omega
  have H0 := Lib.hid (show Pr (w.alloc (.cells #[.string x, .string y] 66)) B p l m a zs s e ∧ Blk (w.alloc (.cells #[.string x, .string y] 66)) w.heap.size 66 #[.string x, .string y] ∧ Below B w (w.alloc (.cells #[.string x, .string y] 66)) ∧ Keep w (w.alloc (.cells #[.string x, .string y] 66)) p from ⟨pr_alloc hp _, Blk.new _ _ _, (Below.refl _ _).alloc hB _, Keep.alloc _ (Keep.refl _ _)⟩)
  clear hp
  go_enter Try.func16, Try.ntmps16
  go_wp2_with fail
  refine (print_any B p l m a _ s e _ _ H0.out.1 (by omega) (Nat.le_trans hB H0.out.2.2.1.size)).mono ?_
  rintro en w1 ⟨rfl, p1, b1, k1⟩
  have H1 := Lib.hid (And.intro p1 (And.intro (k1.blk H0.out.2.1 (by decide) (by omega)) (And.intro (H0.out.2.2.1.trans b1) (H0.out.2.2.2.trans k1))))
  obtain ⟨q1, r1, z1⟩ := H1.out.2.1.two
  clear p1 b1 k1
  go_wp2_with fail
  refine (print_any B p l m a _ s e _ _ H1.out.1 (by simp only [List.length_append, byt_length, sz110]; omega) (Nat.le_trans hB H1.out.2.2.1.size)).mono ?_
  rintro en w2 ⟨rfl, p2, b2, k2⟩
  have H2 := Lib.hid (And.intro p2 (And.intro (k2.blk H1.out.2.1 (by decide) (by omega)) (And.intro (H1.out.2.2.1.trans b2) (H1.out.2.2.2.trans k2))))
  obtain ⟨q2, r2, z2⟩ := H2.out.2.1.two
  clear p2 b2 k2
  go_wp2_with fail
  refine (Try.strings_HasPrefix _ _ _).mono ?_
  rintro en wh ⟨rfl, rfl⟩
  rw [y2]
  go_wp2_with fail
  refine (print_any B p l m a _ s e _ _ H2.out.1 (by simp only [List.length_append, byt_length, sz110, sz43]; omega) (Nat.le_trans hB H2.out.2.2.1.size)).mono ?_
  rintro en w3 ⟨rfl, p3, b3, k3⟩
  have H3 := Lib.hid (And.intro p3 (And.intro (k3.blk H2.out.2.1 (by decide) (by omega)) (And.intro (H2.out.2.2.1.trans b3) (H2.out.2.2.2.trans k3))))
  obtain ⟨q3, r3, z3⟩ := H3.out.2.1.two
  clear p3 b3 k3
  go_wp2_with fail
  refine (print_any B p l m a _ s e _ _ H3.out.1 (by simp only [List.length_append, byt_length, sz110, sz43]; omega) (Nat.le_trans hB H3.out.2.2.1.size)).mono ?_
  rintro en w4 ⟨rfl, p4, b4, k4⟩
  have H4 := Lib.hid (And.intro p4 (And.intro (k4.blk H3.out.2.1 (by decide) (by omega)) (And.intro (H3.out.2.2.1.trans b4) (H3.out.2.2.2.trans k4))))
  obtain ⟨q4, r4, z4⟩ := H4.out.2.1.two
  clear p4 b4 k4
  go_wp2_with fail
  go_end0
  exact ⟨rfl, H4.out.1, H4.out.2.2.1, H4.out.2.2.2⟩
/-- the bytes ahead of b -/
def nthPre (a b : ByteArray) : List UInt8 := if a.data.toList = [] then [] else (if a.data.toList = [45, 49] then [45] else if a.data.toList = [49] then [] else a.data.toList) ++ 110 :: (if b.data.toList = [] ∨ Lib.hasPrefix b.data.toList [45] = true then [] else [43])
def nthStr (a b : ByteArray) : ByteArray := ⟨(nthPre a b ++ b.data.toList).toArray⟩
theorem byt_nthStr (a b : ByteArray) : byt (nthStr a b) = (nthPre a b).map (fun c => (c.toNat : Int)) ++ byt b := by simp [nthStr, byt]
theorem toList_data' (s : ByteArray) : s.toList = s.data.toList := Lib.toList_data s
theorem size_list (s : ByteArray) : s.data.toList.length = s.size := Array.length_toList
theorem nthj_any (B p : Nat) (l : Int) (m f : Bool) (zs : List Int) (s e : Int) (a b : ByteArray) (w : World) (hp : Pr w B p l m f zs s e) (hl : zs.length + a.size + b.size + 8 ≤ 140737488355328) (hB : B ≤ w.heap.size) (hpl : p < w.heap.size) :
    Calls Try.prog 16 #[.pointer (some ⟨p, 0, none⟩), .agg #[.string a, .string b]] w fun en w' => en = .returned (.tuple #[]) ∧ Pr w' B p l m f (zs ++ byt (nthStr a b)) s e ∧ Below B w w' ∧ Keep w w' p := by
  have fin : ∀ {ys : List Int}, ys = zs ++ byt (nthStr a b) → ∀ en w', (en = Ending.returned (.tuple #[]) ∧ Pr w' B p l m f ys s e ∧ Below B w w' ∧ Keep w w' p) → (en = Ending.returned (.tuple #[]) ∧ Pr w' B p l m f (zs ++ byt (nthStr a b)) s e ∧ Below B w w' ∧ Keep w w' p) := by
    intro ys h en w' hh
    rw [← h]; exact hh
  rw [byt_nthStr] at fin
  rw [byt_nthStr]
  have e0 : byt ⟨#[]⟩ = [] := rfl
  have e45 : byt ⟨#[45]⟩ = [45] := rfl
  have e110 : byt ⟨#[110]⟩ = [110] := rfl
  have e43 : byt ⟨#[43]⟩ = [43] := rfl
  by_cases b0 : b.data.toList = []
  · have hb : b = ⟨#[]⟩ := ba_of_list b0
    have hpre : ∀ x, (if b.data.toList = [] ∨ Lib.hasPrefix b.data.toList [45] = true then ([] : List UInt8) else x) = [] := fun x => if_pos (.inl b0)
    by_cases a0 : a.data.toList = []
    · have ha : a = ⟨#[]⟩ := ba_of_list a0
      subst ha hb
      exact (nth_ee B p l m f zs s e w hp (by omega) hB hpl).mono (fin (by simp [nthPre, e0]))
    · by_cases a1 : a.data.toList = [45, 49]
      · have ha : a = ⟨#[45, 49]⟩ := ba_of_list a1
        subst ha hb
        exact (nth_me B p l m f zs s e w hp (by omega) hB hpl).mono (fin (by simp [nthPre, e0, e45, e110]))
      · by_cases a2 : a.data.toList = [49]
        · have ha : a = ⟨#[49]⟩ := ba_of_list a2
          subst ha hb
          exact (nth_oe B p l m f zs s e w hp (by omega) hB hpl).mono (fin (by simp [nthPre, e0, e110]))
        · subst hb
          refine (nth_xe B p l m f zs s e a (by rw [toList_data']; simpa using a0) (by rw [toList_data']; simpa using a1) (by rw [toList_data']; simpa using a2) (by rw [toList_data']; simpa using a2) (by rw [toList_data']; exact a0) w hp (by omega) hB hpl).mono (fin ?_)
          simp only [nthPre, if_neg a0, if_neg a1, if_neg a2]
          simp [e0, e110, byt]
  · have y1 : b.toList.isEmpty = false := by rw [toList_data']; simpa using b0
    have y5 : ¬ b.toList = [] := by rw [toList_data']; exact b0
    by_cases a0 : a.data.toList = []
    · have ha : a = ⟨#[]⟩ := ba_of_list a0
      subst ha
      exact (nth_eq B p l m f zs s e b y1 y5 w hp (by omega) hB hpl).mono (fin (by simp [nthPre]))
    · rcases Bool.eq_false_or_eq_true (Lib.hasPrefix b.data.toList [45]) with y2 | y2
      · have hpre : (if b.data.toList = [] ∨ Lib.hasPrefix b.data.toList [45] = true then ([] : List UInt8) else [43]) = [] := if_pos (.inr y2)
        by_cases a1 : a.data.toList = [45, 49]
        · have ha : a = ⟨#[45, 49]⟩ := ba_of_list a1
          subst ha
          exact (nth_mp B p l m f zs s e b y1 y5 y2 w hp (by omega) hB hpl).mono (fin (by simp only [nthPre, hpre]; simp [e45, e110]))
        · by_cases a2 : a.data.toList = [49]
          · have ha : a = ⟨#[49]⟩ := ba_of_list a2
            subst ha
            exact (nth_op B p l m f zs s e b y1 y5 y2 w hp (by omega) hB hpl).mono (fin (by simp only [nthPre, hpre]; simp [e110]))
          · refine (nth_xp B p l m f zs s e a (by rw [toList_data']; simpa using a0) (by rw [toList_data']; simpa using a1) (by rw [toList_data']; simpa using a2) (by rw [toList_data']; simpa using a2) (by rw [toList_data']; exact a0) b y1 y5 y2 w hp (by omega) hB hpl).mono (fin ?_)
            simp only [nthPre, if_neg a0, if_neg a1, if_neg a2, hpre]
            simp [e110, byt]
      · have hpre : (if b.data.toList = [] ∨ Lib.hasPrefix b.data.toList [45] = true then ([] : List UInt8) else [43]) = [43] := if_neg (fun h => by
          rcases h with h | h
          · exact b0 h
          · rw [y2] at h; cases h)
        by_cases a1 : a.data.toList = [45, 49]
        · have ha : a = ⟨#[45, 49]⟩ := ba_of_list a1
          subst ha
          exact (nth_mq B p l m f zs s e b y1 y5 y2 w hp (by omega) hB hpl).mono (fin (by simp only [nthPre, hpre]; simp [e45, e110, e43]))
        · by_cases a2 : a.data.toList = [49]
          · have ha : a = ⟨#[49]⟩ := ba_of_list a2
            subst ha
            exact (nth_oq B p l m f zs s e b y1 y5 y2 w hp (by omega) hB hpl).mono (fin (by simp only [nthPre, hpre]; simp [e110, e43]))
          · refine (nth_xq B p l m f zs s e a (by rw [toList_data']; simpa using a0) (by rw [toList_data']; simpa using a1) (by rw [toList_data']; simpa using a2) (by rw [toList_data']; simpa using a2) (by rw [toList_data']; exact a0) b y1 y5 y2 w hp (by omega) hB hpl).mono (fin ?_)
            simp only [nthPre, if_neg a0, if_neg a1, if_neg a2, hpre]
            simp [e110, e43, byt]
theorem zznth_any (B p : Nat) (l : Int) (m f : Bool) (zs : List Int) (s e : Int) (a b : ByteArray) (w : World) (hp : Pr w B p l m f zs s e) (hl : zs.length + a.size + b.size + 8 ≤ 140737488355328) (hB : B ≤ w.heap.size) (hpl : p < w.heap.size) :
    Calls Try.prog 7 #[.pointer (some ⟨p, 0, none⟩), .string a, .string b] w fun en w' => en = .returned (.tuple #[]) ∧ Pr w' B p l m f (zs ++ byt (nthStr a b)) s e ∧ Below B w w' ∧ Keep w w' p := by
  have HP := Lib.hid hp
  clear hp
  go_enter Try.func7, Try.ntmps7
  go_wp2_with fail
  refine (nthj_any B p l m f zs s e a b _ HP.out hl hB hpl).mono ?_
  rintro en w1 ⟨rfl, h⟩
  have H := Lib.hid h
  clear h
  go_wp2
  go_end0
  exact ⟨rfl, H.out⟩
end Go.Proofs.Ytafaiigjdjbnbaa
