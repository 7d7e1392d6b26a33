/-
  NewMinifyRenamer: whatever the order in which its four rows and its map are made. No statement of the seat is proved here.
-/
import Derived.Test.YtmpfgkiljfoicaaDoorFs
import Derived.Test.YtmpfgkiljfoicaaDoorOwn
import Derived.Test.YtmpfgkiljfoicaaDoorInts
import Derived.Test.YtmpfgkiljfoicaaDoorFan
import Derived.WideMake
import Derived.DeepKeys4
import Derived.MapViews
import Derived.ChangeSame
import Derived.Maps.OwnSet
namespace Go.Proofs.YtmpfgkiljfoicaaDoor
open Go.RowKit
set_option linter.unusedVariables false
set_option linter.unusedSimpArgs false

def e0 : ByteArray := ByteArray.empty
def zslot : Array Value := #[.string e0, .int .u32 0, .int .u32 0]
theorem info80 : (Tryd.prog.info? 84).map (fun i => (i.zero, i.size, i.bytes)) = some (some (.agg zslot), 3, 24) := by kernel_rfl
/-- the cells of n fresh slots -/
def zs (n : Nat) : Array Value := madeCells zslot (n * 3)
theorem build69 (a0 a1 a2 a3 : Option Addr) (n0 n1 n2 n3 m0 m1 m2 m3 : Nat) (w : World) : (Instr.build 53 #[(0, .slice a0 n0 m0), (1, .slice a1 n1 m1), (2, .slice a2 n2 m2), (3, .slice a3 n3 m3)]).run Tryd.prog w = .ok (.agg #[.slice a0 n0 m0, .slice a1 n1 m1, .slice a2 n2 m2, .slice a3 n3 m3]) w := by kernel_rfl
theorem build72 (a0 a1 a2 a3 : Option Addr) (n0 n1 n2 n3 m0 m1 m2 m3 T bm : Nat) (rm : Option Nat) (w : World) : (Instr.build 56 #[(3, .agg #[.slice (some ⟨T, 0, none⟩) 1 1]), (0, .map rm), (1, .agg #[.slice a0 n0 m0, .slice a1 n1 m1, .slice a2 n2 m2, .slice a3 n3 m3]), (2, .map (some bm))]).run Tryd.prog w = .ok (.agg #[.map rm, .slice a0 n0 m0, .slice a1 n1 m1, .slice a2 n2 m2, .slice a3 n3 m3, .map (some bm), .slice (some ⟨T, 0, none⟩) 1 1]) w := by kernel_rfl
theorem makeN (c : Nat) (hc : c ≤ 65536) (w : World) : (Instr.makeSlice 52 (.int .u32 c) (.int .u32 c)).run Tryd.prog w = .ok (.slice (some ⟨w.heap.size, 0, none⟩) c c) (w.alloc (.cells (zs c) 84)) := by
  obtain ⟨i0, hi0, hz0, hz1, hz2⟩ := info_parts info80
  have h := run_make (P := Tryd.prog) w 52 84 i0 _ Tryd.underlying52 hi0 hz0 .u32 .u32 c c (by omega) (Int.le_refl _) (by rw [hz2]; omega) (by omega)
  rw [hz1] at h
  unfold zs
  simpa [Value.cells] using h
/-- which of the four rows are made, and what they are -/
def bf (b0 b1 b2 b3 : Bool) : Nat → Bool | 0 => b0 | 1 => b1 | 2 => b2 | 3 => b3 | _ => false
def xf (x0 x1 x2 x3 : Value) : Nat → Value | 0 => x0 | 1 => x1 | 2 => x2 | 3 => x3 | _ => undef
def cf (c0 c1 c2 c3 : Nat) : Nat → Nat | 0 => c0 | 1 => c1 | 2 => c2 | 3 => c3 | _ => 0
structure Done (B : Nat) (c : Nat → Nat) (b : Nat → Bool) (x : Nat → Value) (w : World) : Prop where
  row : ∀ k, b k = true → ∃ g, x k = .slice (some ⟨g, 0, none⟩) (c k) (c k) ∧ B ≤ g ∧ Blk w g 84 (zs (c k))
  ne : ∀ k j g, b k = true → b j = true → k ≠ j → (x k).ownBlock = some g → (x j).ownBlock ≠ some g
theorem Done.grow {B : Nat} {c : Nat → Nat} {b : Nat → Bool} {x : Nat → Value} {w w' : World} (h : Done B c b x w) (hg : w.grownBy w' none) : Done B c b x w' :=
  ⟨fun k hk => by obtain ⟨g, h1, h2, h3⟩ := h.row k hk; exact ⟨g, h1, h2, h3.gb hg (by simp)⟩, h.ne⟩
theorem Done.new {B : Nat} {c : Nat → Nat} {b b' : Nat → Bool} {x x' : Nat → Value} {w : World} (h : Done B c b x w) (k : Nat) (hb : ∀ j, j ≠ k → b' j = b j) (hx : ∀ j, j ≠ k → x' j = x j)
    (hk : x' k = .slice (some ⟨w.heap.size, 0, none⟩) (c k) (c k)) (hB : B ≤ w.heap.size) : Done B c b' x' (w.alloc (.cells (zs (c k)) 84)) := by
  have old : ∀ j, j ≠ k → b' j = true → ∃ g, x' j = .slice (some ⟨g, 0, none⟩) (c j) (c j) ∧ B ≤ g ∧ Blk w g 84 (zs (c j)) := fun j hj hbj => by
    rw [hb j hj] at hbj; rw [hx j hj]; exact h.row j hbj
  refine ⟨fun j hj => ?_, fun i j g hi hj hij hgi => ?_⟩
  · by_cases e : j = k
    · subst e; exact ⟨_, hk, hB, Blk.new _ _ _⟩
    · obtain ⟨g, h1, h2, h3⟩ := old j e hj
      exact ⟨g, h1, h2, h3.alloc _⟩
  · by_cases e1 : i = k
    · subst e1
      obtain ⟨g', h1, h2, h3⟩ := old j (Ne.symm hij) hj
      rw [hk] at hgi
      rw [h1]
      intro e
      have e2 : w.heap.size = g := by simpa [Value.ownBlock] using hgi
      have e3 : g' = g := by simpa [Value.ownBlock] using e
      have := h3.lt
      omega
    · by_cases e2 : j = k
      · subst e2
        obtain ⟨g', h1, h2, h3⟩ := old i e1 hi
        rw [h1] at hgi
        rw [hk]
        intro e
        have e4 : w.heap.size = g := by simpa [Value.ownBlock] using e
        have e3 : g' = g := by simpa [Value.ownBlock] using hgi
        have := h3.lt
        omega
      · rw [hb i e1] at hi
        rw [hb j e2] at hj
        rw [hx i e1] at hgi
        rw [hx j e2]
        exact h.ne i j g hi hj hij hgi
/-- the map of the top-level slots, fresh -/
def Fm (B : Nat) (b : Bool) (x : Value) (w : World) : Prop := b = true → ∃ bm, x = .map (some bm) ∧ B ≤ bm ∧ w.heap[bm]? = some (.map #[] 0)
theorem Fm.grow {B : Nat} {b : Bool} {x : Value} {w w' : World} (h : Fm B b x w) (hg : w.grownBy w' none) : Fm B b x w' := fun hb => by
  obtain ⟨bm, h1, h2, h3⟩ := h hb
  exact ⟨bm, h1, h2, gb_blk hg h3 (by simp)⟩
def nb (b : Bool) : Nat := if b = true then 0 else 1
def rsOf (b0 b1 b2 b3 b4 b5 : Bool) : List Nat := (if b0 = true then [] else [4]) ++ (if b1 = true then [] else [7]) ++ (if b2 = true then [] else [10]) ++ (if b3 = true then [] else [13]) ++ (if (b0 && b1 && b2 && b3 && !b4) = true then [14] else []) ++ (if b5 = true then [] else [15])
def lsOf (b0 b1 b2 b3 b4 b5 : Bool) : Array Bool := #[true, true, true, true, b0, true, true, b1, true, true, b2, true, true, b3, b4, b5, false, false, false]
/-- a fresh renamer -/
structure New (rm : Option Nat) (w : World) (B R T bm g0 g1 g2 g3 c0 c1 c2 c3 : Nat) : Prop where
  blk : Blk w R 56 #[.map rm, .slice (some ⟨g0, 0, none⟩) c0 c0, .slice (some ⟨g1, 0, none⟩) c1 c1, .slice (some ⟨g2, 0, none⟩) c2 c2, .slice (some ⟨g3, 0, none⟩) c3 c3, .map (some bm), .slice (some ⟨T, 0, none⟩) 1 1]
  r0 : Blk w g0 84 (zs c0)
  r1 : Blk w g1 84 (zs c1)
  r2 : Blk w g2 84 (zs c2)
  r3 : Blk w g3 84 (zs c3)
  map : w.heap[bm]? = some (.map #[] 0)
  ne : g0 ≠ g1 ∧ g0 ≠ g2 ∧ g0 ≠ g3 ∧ g1 ≠ g2 ∧ g1 ≠ g3 ∧ g2 ≠ g3
  le : B ≤ R ∧ B ≤ bm ∧ B ≤ g0 ∧ B ≤ g1 ∧ B ≤ g2 ∧ B ≤ g3
def NewPost (rm : Option Nat) (w : World) (T c0 c1 c2 c3 : Nat) (e : Ending) (w' : World) : Prop := ∃ R bm g0 g1 g2 g3, e = .returned (.pointer (some ⟨R, 0, none⟩)) ∧ New rm w' w.heap.size R T bm g0 g1 g2 g3 c0 c1 c2 c3 ∧ Below w.heap.size w w'
set_option maxRecDepth 100000 in
set_option maxHeartbeats 2000000 in
theorem new_any (rm : Option Nat) (T : Nat) (c0 c1 c2 c3 : Nat) (h0 : c0 ≤ 65536) (h1 : c1 ≤ 65536) (h2 : c2 ≤ 65536) (h3 : c3 ≤ 65536) (w : World) :
    Calls Tryd.prog 6 #[.agg #[.slice (some ⟨T, 0, none⟩) 1 1], .agg #[.int .u32 c0, .int .u32 c1, .int .u32 c2, .int .u32 c3], .map rm] w (NewPost rm w T c0 c1 c2 c3) := by
  have b1 := (Blk.new w 36 #[.slice (some ⟨T, 0, none⟩) 1 1]).alloc (.cells #[.int .u32 c0, .int .u32 c1, .int .u32 c2, .int .u32 c3] 39)
  have b2 := (Blk.new (w.alloc (.cells #[.slice (some ⟨T, 0, none⟩) 1 1] 36)) 39 #[.int .u32 c0, .int .u32 c1, .int .u32 c2, .int .u32 c3])
  obtain ⟨A, hA⟩ : ∃ A, w.heap.size = A := ⟨_, rfl⟩
  rw [show (w.alloc (.cells #[.slice (some ⟨T, 0, none⟩) 1 1] 36)).heap.size = A + 1 by simp [hA]] at b2
  rw [hA] at b1
  have HB := Lib.hid (And.intro b1 b2)
  clear b1 b2
  go_enter Tryd.func6, Tryd.ntmps6
  go_upto_region 1 with fail
  have hw2 : Below w.heap.size w ((w.alloc (.cells #[.slice (some ⟨T, 0, none⟩) 1 1] 36)).alloc (.cells #[.int .u32 c0, .int .u32 c1, .int .u32 c2, .int .u32 c3] 39)) := by
    exact ((Below.refl _ _).alloc (Nat.le_refl _) _).alloc (by simp) _
  generalize (w.alloc (.cells #[.slice (some ⟨T, 0, none⟩) 1 1] 36)).alloc (.cells #[.int .u32 c0, .int .u32 c1, .int .u32 c2, .int .u32 c3] 39) = W at HB hw2 ⊢
  have HBW := Lib.hid hw2
  clear hw2
  have hS : (fun w' : World => Blk w' A 36 #[.slice (some ⟨T, 0, none⟩) 1 1] ∧ Blk w' (A + 1) 39 #[.int .u32 c0, .int .u32 c1, .int .u32 c2, .int .u32 c3]) W.drew := HB.out
  refine wp_region_held_drew (S := fun w' : World => Blk w' A 36 #[.slice (some ⟨T, 0, none⟩) 1 1] ∧ Blk w' (A + 1) 39 #[.int .u32 c0, .int .u32 c1, .int .u32 c2, .int .u32 c3]) (by kernel_rfl) hS (fun hH => ?_)
  refine wpAnyH_take (i := 0) (v := .agg #[.slice (some ⟨T, 0, none⟩) 1 1]) rfl (by kernel_rfl) (by kernel_rfl) (by kernel_rfl) (fun _ _ _ h => h) (Or.inl ⟨by rfl, fun w' hw' => by (have s1 := hw'.1.cell 0; go_simp)⟩) hH ?_
  change wpAnyH _ _ _ _ _ _ _ { tmps := #[.agg #[.slice (some ⟨T, 0, none⟩) 1 1], .agg #[.int .u32 c0, .int .u32 c1, .int .u32 c2, .int .u32 c3], .map rm, .pointer (some ⟨A, 0, none⟩), .pointer (some ⟨A + 1, 0, none⟩), undef, .pointer none, .agg #[.slice (some ⟨T, 0, none⟩) 1 1], undef, undef, undef, undef, undef, undef, undef, undef, undef, undef, undef, undef, undef, undef, undef, undef, undef], defers := [] } _
  refine wpAnyH_take (i := 1) (v := .map rm) rfl (by kernel_rfl) (by kernel_rfl) (by kernel_rfl) (fun _ _ _ h => h) (Or.inl ⟨by rfl, fun w' hw' => by (go_simp)⟩) hH ?_
  change wpAnyH _ _ _ _ _ _ _ { tmps := #[.agg #[.slice (some ⟨T, 0, none⟩) 1 1], .agg #[.int .u32 c0, .int .u32 c1, .int .u32 c2, .int .u32 c3], .map rm, .pointer (some ⟨A, 0, none⟩), .pointer (some ⟨A + 1, 0, none⟩), undef, .pointer none, .agg #[.slice (some ⟨T, 0, none⟩) 1 1], .map rm, undef, undef, undef, undef, undef, undef, undef, undef, undef, undef, undef, undef, undef, undef, undef, undef], defers := [] } _
  refine wpAnyH_take (i := 2) (v := .pointer (some ⟨A + 1, 0, none⟩)) rfl (by kernel_rfl) (by kernel_rfl) (by kernel_rfl) (fun _ _ _ h => h) (Or.inl ⟨by rfl, fun w' hw' => by (go_simp)⟩) hH ?_
  change wpAnyH _ _ _ _ _ _ _ { tmps := #[.agg #[.slice (some ⟨T, 0, none⟩) 1 1], .agg #[.int .u32 c0, .int .u32 c1, .int .u32 c2, .int .u32 c3], .map rm, .pointer (some ⟨A, 0, none⟩), .pointer (some ⟨A + 1, 0, none⟩), undef, .pointer none, .agg #[.slice (some ⟨T, 0, none⟩) 1 1], .map rm, .pointer (some ⟨A + 1, 0, none⟩), undef, undef, undef, undef, undef, undef, undef, undef, undef, undef, undef, undef, undef, undef, undef], defers := [] } _
  refine wpAnyH_take (i := 3) (v := .int .u32 c0) rfl (by kernel_rfl) (by kernel_rfl) (by kernel_rfl) (fun _ _ _ h => h) (Or.inl ⟨by rfl, fun w' hw' => by (have s1 := hw'.2.cell 0; go_simp)⟩) hH ?_
  change wpAnyH _ _ _ _ _ _ _ { tmps := #[.agg #[.slice (some ⟨T, 0, none⟩) 1 1], .agg #[.int .u32 c0, .int .u32 c1, .int .u32 c2, .int .u32 c3], .map rm, .pointer (some ⟨A, 0, none⟩), .pointer (some ⟨A + 1, 0, none⟩), undef, .pointer none, .agg #[.slice (some ⟨T, 0, none⟩) 1 1], .map rm, .pointer (some ⟨A + 1, 0, none⟩), .int .u32 c0, undef, undef, undef, undef, undef, undef, undef, undef, undef, undef, undef, undef, undef, undef], defers := [] } _
  refine wpAnyH_take (i := 5) (v := .pointer (some ⟨A + 1, 1, none⟩)) rfl (by kernel_rfl) (by kernel_rfl) (by kernel_rfl) (fun _ _ _ h => h) (Or.inl ⟨by rfl, fun w' hw' => by (go_simp)⟩) hH ?_
  change wpAnyH _ _ _ _ _ _ _ { tmps := #[.agg #[.slice (some ⟨T, 0, none⟩) 1 1], .agg #[.int .u32 c0, .int .u32 c1, .int .u32 c2, .int .u32 c3], .map rm, .pointer (some ⟨A, 0, none⟩), .pointer (some ⟨A + 1, 0, none⟩), undef, .pointer none, .agg #[.slice (some ⟨T, 0, none⟩) 1 1], .map rm, .pointer (some ⟨A + 1, 0, none⟩), .int .u32 c0, undef, .pointer (some ⟨A + 1, 1, none⟩), undef, undef, undef, undef, undef, undef, undef, undef, undef, undef, undef, undef], defers := [] } _
  refine wpAnyH_take (i := 6) (v := .int .u32 c1) rfl (by kernel_rfl) (by kernel_rfl) (by kernel_rfl) (fun _ _ _ h => h) (Or.inl ⟨by rfl, fun w' hw' => by (have s1 := hw'.2.cell 1; go_simp)⟩) hH ?_
  change wpAnyH _ _ _ _ _ _ _ { tmps := #[.agg #[.slice (some ⟨T, 0, none⟩) 1 1], .agg #[.int .u32 c0, .int .u32 c1, .int .u32 c2, .int .u32 c3], .map rm, .pointer (some ⟨A, 0, none⟩), .pointer (some ⟨A + 1, 0, none⟩), undef, .pointer none, .agg #[.slice (some ⟨T, 0, none⟩) 1 1], .map rm, .pointer (some ⟨A + 1, 0, none⟩), .int .u32 c0, undef, .pointer (some ⟨A + 1, 1, none⟩), .int .u32 c1, undef, undef, undef, undef, undef, undef, undef, undef, undef, undef, undef], defers := [] } _
  refine wpAnyH_take (i := 8) (v := .pointer (some ⟨A + 1, 2, none⟩)) rfl (by kernel_rfl) (by kernel_rfl) (by kernel_rfl) (fun _ _ _ h => h) (Or.inl ⟨by rfl, fun w' hw' => by (go_simp)⟩) hH ?_
  change wpAnyH _ _ _ _ _ _ _ { tmps := #[.agg #[.slice (some ⟨T, 0, none⟩) 1 1], .agg #[.int .u32 c0, .int .u32 c1, .int .u32 c2, .int .u32 c3], .map rm, .pointer (some ⟨A, 0, none⟩), .pointer (some ⟨A + 1, 0, none⟩), undef, .pointer none, .agg #[.slice (some ⟨T, 0, none⟩) 1 1], .map rm, .pointer (some ⟨A + 1, 0, none⟩), .int .u32 c0, undef, .pointer (some ⟨A + 1, 1, none⟩), .int .u32 c1, undef, .pointer (some ⟨A + 1, 2, none⟩), undef, undef, undef, undef, undef, undef, undef, undef, undef], defers := [] } _
  refine wpAnyH_take (i := 9) (v := .int .u32 c2) rfl (by kernel_rfl) (by kernel_rfl) (by kernel_rfl) (fun _ _ _ h => h) (Or.inl ⟨by rfl, fun w' hw' => by (have s1 := hw'.2.cell 2; go_simp)⟩) hH ?_
  change wpAnyH _ _ _ _ _ _ _ { tmps := #[.agg #[.slice (some ⟨T, 0, none⟩) 1 1], .agg #[.int .u32 c0, .int .u32 c1, .int .u32 c2, .int .u32 c3], .map rm, .pointer (some ⟨A, 0, none⟩), .pointer (some ⟨A + 1, 0, none⟩), undef, .pointer none, .agg #[.slice (some ⟨T, 0, none⟩) 1 1], .map rm, .pointer (some ⟨A + 1, 0, none⟩), .int .u32 c0, undef, .pointer (some ⟨A + 1, 1, none⟩), .int .u32 c1, undef, .pointer (some ⟨A + 1, 2, none⟩), .int .u32 c2, undef, undef, undef, undef, undef, undef, undef, undef], defers := [] } _
  refine wpAnyH_take (i := 11) (v := .pointer (some ⟨A + 1, 3, none⟩)) rfl (by kernel_rfl) (by kernel_rfl) (by kernel_rfl) (fun _ _ _ h => h) (Or.inl ⟨by rfl, fun w' hw' => by (go_simp)⟩) hH ?_
  change wpAnyH _ _ _ _ _ _ _ { tmps := #[.agg #[.slice (some ⟨T, 0, none⟩) 1 1], .agg #[.int .u32 c0, .int .u32 c1, .int .u32 c2, .int .u32 c3], .map rm, .pointer (some ⟨A, 0, none⟩), .pointer (some ⟨A + 1, 0, none⟩), undef, .pointer none, .agg #[.slice (some ⟨T, 0, none⟩) 1 1], .map rm, .pointer (some ⟨A + 1, 0, none⟩), .int .u32 c0, undef, .pointer (some ⟨A + 1, 1, none⟩), .int .u32 c1, undef, .pointer (some ⟨A + 1, 2, none⟩), .int .u32 c2, undef, .pointer (some ⟨A + 1, 3, none⟩), undef, undef, undef, undef, undef, undef], defers := [] } _
  refine wpAnyH_take (i := 12) (v := .int .u32 c3) rfl (by kernel_rfl) (by kernel_rfl) (by kernel_rfl) (fun _ _ _ h => h) (Or.inl ⟨by rfl, fun w' hw' => by (have s1 := hw'.2.cell 3; go_simp)⟩) hH ?_
  change wpAnyH _ _ _ _ _ _ _ { tmps := #[.agg #[.slice (some ⟨T, 0, none⟩) 1 1], .agg #[.int .u32 c0, .int .u32 c1, .int .u32 c2, .int .u32 c3], .map rm, .pointer (some ⟨A, 0, none⟩), .pointer (some ⟨A + 1, 0, none⟩), undef, .pointer none, .agg #[.slice (some ⟨T, 0, none⟩) 1 1], .map rm, .pointer (some ⟨A + 1, 0, none⟩), .int .u32 c0, undef, .pointer (some ⟨A + 1, 1, none⟩), .int .u32 c1, undef, .pointer (some ⟨A + 1, 2, none⟩), .int .u32 c2, undef, .pointer (some ⟨A + 1, 3, none⟩), .int .u32 c3, undef, undef, undef, undef, undef], defers := [] } _
  refine wpAnyH_fan (J := fun n listed a wx => ∃ (b0 b1 b2 b3 b4 b5 : Bool) (x0 x1 x2 x3 x4 x5 : Value), listed = lsOf b0 b1 b2 b3 b4 b5 ∧ n = nb b0 + nb b1 + nb b2 + nb b3 + nb b4 + nb b5 ∧ (b4 = true → b0 = true ∧ b1 = true ∧ b2 = true ∧ b3 = true ∧ x4 = .agg #[x0, x1, x2, x3]) ∧
    a = { tmps := #[.agg #[.slice (some ⟨T, 0, none⟩) 1 1], .agg #[.int .u32 c0, .int .u32 c1, .int .u32 c2, .int .u32 c3], .map rm, .pointer (some ⟨A, 0, none⟩), .pointer (some ⟨A + 1, 0, none⟩), undef, .pointer none, .agg #[.slice (some ⟨T, 0, none⟩) 1 1], .map rm, .pointer (some ⟨A + 1, 0, none⟩), .int .u32 c0, x0, .pointer (some ⟨A + 1, 1, none⟩), .int .u32 c1, x1, .pointer (some ⟨A + 1, 2, none⟩), .int .u32 c2, x2, .pointer (some ⟨A + 1, 3, none⟩), .int .u32 c3, x3, x4, x5, undef, undef], defers := [] } ∧ Done A (cf c0 c1 c2 c3) (bf b0 b1 b2 b3) (xf x0 x1 x2 x3) wx ∧ Fm A b5 x5 wx ∧ Below w.heap.size w wx ∧ Blk wx A 36 #[.slice (some ⟨T, 0, none⟩) 1 1] ∧ Blk wx (A + 1) 39 #[.int .u32 c0, .int .u32 c1, .int .u32 c2, .int .u32 c3]) 3 ?_ ?_ 6 _ _ _ ?_
  · rintro listed a wx ⟨b0, b1, b2, b3, b4, b5, x0, x1, x2, x3, x4, x5, rfl, hn, h4, rfl, hd, hm, hb, hs1, hs2⟩
    obtain ⟨rfl, rfl, rfl, rfl, rfl, rfl⟩ : b0 = true ∧ b1 = true ∧ b2 = true ∧ b3 = true ∧ b4 = true ∧ b5 = true := by
      cases b0 <;> cases b1 <;> cases b2 <;> cases b3 <;> cases b4 <;> cases b5 <;> simp [nb] at hn ⊢
    obtain ⟨_, _, _, _, rfl⟩ := h4 rfl
    clear hn h4
    obtain ⟨g0, e0, r0, q0⟩ := hd.row 0 rfl
    obtain ⟨g1, e1, r1, q1⟩ := hd.row 1 rfl
    obtain ⟨g2, e2, r2, q2⟩ := hd.row 2 rfl
    obtain ⟨g3, e3, r3, q3⟩ := hd.row 3 rfl
    obtain ⟨bm, rfl, rmm, hm⟩ := hm rfl
    have e0' : x0 = .slice (some ⟨g0, 0, none⟩) c0 c0 := e0
    have e1' : x1 = .slice (some ⟨g1, 0, none⟩) c1 c1 := e1
    have e2' : x2 = .slice (some ⟨g2, 0, none⟩) c2 c2 := e2
    have e3' : x3 = .slice (some ⟨g3, 0, none⟩) c3 c3 := e3
    clear e0 e1 e2 e3
    subst e0' e1' e2' e3'
    have hbd := fun w => build72 (some ⟨g0, 0, none⟩) (some ⟨g1, 0, none⟩) (some ⟨g2, 0, none⟩) (some ⟨g3, 0, none⟩) c0 c1 c2 c3 c0 c1 c2 c3 T bm rm w
    refine wpAnyH_ready (rs := [16]) (by kernel_rfl) (by simp) ?_
    refine AllReadyH.cons rfl (fun K hK => ?_) AllReadyH.nil
    go_simp
    refine hK.out _ _ ⟨hs1, hs2⟩ (fun _ => ?_)
    refine wpAnyH_ready (rs := [17]) (by kernel_rfl) (by simp) ?_
    refine AllReadyH.cons rfl (fun K hK => ?_) AllReadyH.nil
    go_simp
    refine hK.out _ _ ⟨hs1.alloc _, hs2.alloc _⟩ (fun _ => ?_)
    refine wpAnyH_ready (rs := [18]) (by kernel_rfl) (by simp) ?_
    refine AllReadyH.cons rfl (fun K hK => ?_) AllReadyH.nil
    go_simp
    refine hK.out _ _ ⟨hs1.alloc _, hs2.alloc _⟩ (fun _ => ?_)
    refine wpAnyH_done (by kernel_rfl) ?_ _
    go_simp
    go_wp2_with fail
    go_ret
    have hne : g0 ≠ g1 ∧ g0 ≠ g2 ∧ g0 ≠ g3 ∧ g1 ≠ g2 ∧ g1 ≠ g3 ∧ g2 ≠ g3 := by
      refine ⟨fun e => ?_, fun e => ?_, fun e => ?_, fun e => ?_, fun e => ?_, fun e => ?_⟩
      · exact hd.ne 0 1 g0 rfl rfl (by decide) rfl (by rw [e]; rfl)
      · exact hd.ne 0 2 g0 rfl rfl (by decide) rfl (by rw [e]; rfl)
      · exact hd.ne 0 3 g0 rfl rfl (by decide) rfl (by rw [e]; rfl)
      · exact hd.ne 1 2 g1 rfl rfl (by decide) rfl (by rw [e]; rfl)
      · exact hd.ne 1 3 g1 rfl rfl (by decide) rfl (by rw [e]; rfl)
      · exact hd.ne 2 3 g2 rfl rfl (by decide) rfl (by rw [e]; rfl)
    exact ⟨_, bm, g0, g1, g2, g3, rfl, ⟨Blk.new _ _ _, q0.alloc _, q1.alloc _, q2.alloc _, q3.alloc _, blk_alloc hm _, hne, ⟨hb.size, by omega, by omega, by omega, by omega, by omega⟩⟩, hb.alloc hb.size _⟩
  · rintro n listed a wx ⟨b0, b1, b2, b3, b4, b5, x0, x1, x2, x3, x4, x5, rfl, hn, h4, rfl, hd, hm, hb, hs1, hs2⟩
    refine ⟨rsOf b0 b1 b2 b3 b4 b5, ?_, ?_, ?_⟩
    · clear hd hm
      cases b4
      · cases b0 <;> cases b1 <;> cases b2 <;> cases b3 <;> cases b5 <;> kernel_rfl
      · obtain ⟨rfl, rfl, rfl, rfl, _⟩ := h4 rfl
        cases b5
        · kernel_rfl
        · exfalso; simp [nb] at hn
    · cases b4
      · cases b0 <;> cases b1 <;> cases b2 <;> cases b3 <;> cases b5 <;> first | (exfalso; simp [nb] at hn; done) | simp [rsOf]
      · obtain ⟨rfl, rfl, rfl, rfl, _⟩ := h4 rfl
        cases b5 <;> first | (exfalso; simp [nb] at hn; done) | simp [rsOf]
    · have hws : w.heap.size ≤ wx.heap.size := hb.size
      intro i hi
      have hi' : (i = 4 ∧ b0 = false) ∨ (i = 7 ∧ b1 = false) ∨ (i = 10 ∧ b2 = false) ∨ (i = 13 ∧ b3 = false) ∨ (i = 14 ∧ b0 = true ∧ b1 = true ∧ b2 = true ∧ b3 = true ∧ b4 = false) ∨ (i = 15 ∧ b5 = false) := by
        clear hn hd hm h4
        revert hi
        unfold rsOf
        cases b0 <;> cases b1 <;> cases b2 <;> cases b3 <;> cases b4 <;> cases b5 <;> simp <;> omega
      have hbs : A ≤ wx.heap.size := by omega
      rcases hi' with ⟨rfl, hb'⟩ | ⟨rfl, hb'⟩ | ⟨rfl, hb'⟩ | ⟨rfl, hb'⟩ | ⟨rfl, rfl, rfl, rfl, rfl, hb'⟩ | ⟨rfl, hb'⟩
      · refine step_of rfl (fun K hK => ?_)
        have hmk := makeN c0 h0 wx
        go_simp
        have hn4 : b4 = false := by
          cases b4
          · rfl
          · have := h4 rfl; simp_all
        refine hK _ _ ⟨⟨hs1.alloc _, hs2.alloc _⟩, true, b1, b2, b3, b4, b5, .slice (some ⟨wx.heap.size, 0, none⟩) c0 c0, x1, x2, x3, x4, x5, by subst hb'; rfl, by subst hb'; simp only [nb] at hn ⊢; simp at hn ⊢; omega, fun h => (by rw [hn4] at h; cases h), rfl, hd.new 0 (fun j hj => ?_) (fun j hj => ?_) rfl hbs, hm.grow (gb_alloc (gb_refl _ _) _), hb.alloc hws _, hs1.alloc _, hs2.alloc _⟩
        · unfold bf; split <;> first | rfl | exact absurd rfl hj
        · unfold xf; split <;> first | rfl | exact absurd rfl hj
      · refine step_of rfl (fun K hK => ?_)
        have hmk := makeN c1 h1 wx
        go_simp
        have hn4 : b4 = false := by
          cases b4
          · rfl
          · have := h4 rfl; simp_all
        refine hK _ _ ⟨⟨hs1.alloc _, hs2.alloc _⟩, b0, true, b2, b3, b4, b5, x0, .slice (some ⟨wx.heap.size, 0, none⟩) c1 c1, x2, x3, x4, x5, by subst hb'; rfl, by subst hb'; simp only [nb] at hn ⊢; simp at hn ⊢; omega, fun h => (by rw [hn4] at h; cases h), rfl, hd.new 1 (fun j hj => ?_) (fun j hj => ?_) rfl hbs, hm.grow (gb_alloc (gb_refl _ _) _), hb.alloc hws _, hs1.alloc _, hs2.alloc _⟩
        · unfold bf; split <;> first | rfl | exact absurd rfl hj
        · unfold xf; split <;> first | rfl | exact absurd rfl hj
      · refine step_of rfl (fun K hK => ?_)
        have hmk := makeN c2 h2 wx
        go_simp
        have hn4 : b4 = false := by
          cases b4
          · rfl
          · have := h4 rfl; simp_all
        refine hK _ _ ⟨⟨hs1.alloc _, hs2.alloc _⟩, b0, b1, true, b3, b4, b5, x0, x1, .slice (some ⟨wx.heap.size, 0, none⟩) c2 c2, x3, x4, x5, by subst hb'; rfl, by subst hb'; simp only [nb] at hn ⊢; simp at hn ⊢; omega, fun h => (by rw [hn4] at h; cases h), rfl, hd.new 2 (fun j hj => ?_) (fun j hj => ?_) rfl hbs, hm.grow (gb_alloc (gb_refl _ _) _), hb.alloc hws _, hs1.alloc _, hs2.alloc _⟩
        · unfold bf; split <;> first | rfl | exact absurd rfl hj
        · unfold xf; split <;> first | rfl | exact absurd rfl hj
      · refine step_of rfl (fun K hK => ?_)
        have hmk := makeN c3 h3 wx
        go_simp
        have hn4 : b4 = false := by
          cases b4
          · rfl
          · have := h4 rfl; simp_all
        refine hK _ _ ⟨⟨hs1.alloc _, hs2.alloc _⟩, b0, b1, b2, true, b4, b5, x0, x1, x2, .slice (some ⟨wx.heap.size, 0, none⟩) c3 c3, x4, x5, by subst hb'; rfl, by subst hb'; simp only [nb] at hn ⊢; simp at hn ⊢; omega, fun h => (by rw [hn4] at h; cases h), rfl, hd.new 3 (fun j hj => ?_) (fun j hj => ?_) rfl hbs, hm.grow (gb_alloc (gb_refl _ _) _), hb.alloc hws _, hs1.alloc _, hs2.alloc _⟩
        · unfold bf; split <;> first | rfl | exact absurd rfl hj
        · unfold xf; split <;> first | rfl | exact absurd rfl hj
      · refine step_of rfl (fun K hK => ?_)
        have HN := Lib.hid hn
        clear hn
        obtain ⟨g0, e0, _, _⟩ := hd.row 0 rfl
        obtain ⟨g1, e1, _, _⟩ := hd.row 1 rfl
        obtain ⟨g2, e2, _, _⟩ := hd.row 2 rfl
        obtain ⟨g3, e3, _, _⟩ := hd.row 3 rfl
        have e0' : x0 = .slice (some ⟨g0, 0, none⟩) c0 c0 := e0
        have e1' : x1 = .slice (some ⟨g1, 0, none⟩) c1 c1 := e1
        have e2' : x2 = .slice (some ⟨g2, 0, none⟩) c2 c2 := e2
        have e3' : x3 = .slice (some ⟨g3, 0, none⟩) c3 c3 := e3
        clear e0 e1 e2 e3
        subst e0' e1' e2' e3'
        have hbd := fun w => build69 (some ⟨g0, 0, none⟩) (some ⟨g1, 0, none⟩) (some ⟨g2, 0, none⟩) (some ⟨g3, 0, none⟩) c0 c1 c2 c3 c0 c1 c2 c3 w
        go_simp
        refine hK _ _ ⟨⟨hs1, hs2⟩, true, true, true, true, true, b5, _, _, _, _, _, x5, by subst hb'; rfl, by have hn := HN.out; subst hb'; simp only [nb] at hn ⊢; simp at hn ⊢; omega, fun _ => ⟨rfl, rfl, rfl, rfl, rfl⟩, rfl, hd, hm, hb, hs1, hs2⟩
      · refine step_of rfl (fun K hK => ?_)
        go_simp
        refine hK _ _ ⟨⟨hs1.alloc _, hs2.alloc _⟩, b0, b1, b2, b3, b4, true, x0, x1, x2, x3, x4, .map (some wx.heap.size), by subst hb'; rfl, by subst hb'; simp only [nb] at hn ⊢; simp at hn ⊢; omega, h4, rfl, hd.grow (gb_alloc (gb_refl _ _) _), fun _ => ⟨_, rfl, hbs, heap_alloc_new wx _⟩, hb.alloc hws _, hs1.alloc _, hs2.alloc _⟩
  · exact ⟨false, false, false, false, false, false, undef, undef, undef, undef, undef, undef, rfl, rfl, fun h => (by cases h), rfl, ⟨fun k hk => by (exfalso; revert hk; unfold bf; split <;> simp), fun k _ _ hk => by (exfalso; revert hk; unfold bf; split <;> simp)⟩, fun h => (by cases h), HBW.out.drew, hH.1, hH.2⟩
end Go.Proofs.YtmpfgkiljfoicaaDoor
