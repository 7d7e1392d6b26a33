/-
  Tokens cloned: none, or one. No statement of the seat is proved here.
-/
import Derived.Test.YtgkekeojdiofnaaNe
import Derived.Lib.SliceRun
namespace Go.Proofs.Ytgkekeojdiofnaa
open Go.RowKit
set_option linter.unusedVariables false
set_option linter.unusedSimpArgs false

/-- the cells of a token -/
def tkC (c : Value) (s : ByteArray) (k : Int) : Array Value := #[c, .string s, .int .i32 0, .int .u32 0, .int .u16 0, .int .u8 k, .int .u8 0]
theorem zinfo55 : (Try.prog.info? 55).map (fun i => (i.zero, i.size, i.bytes)) = some (some (.agg (tkC (.pointer none) ⟨#[]⟩ 0)), 7, 40) := by kernel_rfl
set_option maxRecDepth 100000 in
set_option maxHeartbeats 4000000 in
theorem ct0_any (ao : Option Addr) (cap : Nat) (w : World) : Calls Try.prog 14 #[.slice ao 0 cap, .slice none 0 0, .slice none 0 0, .slice none 0 0] w fun e w' => ∃ a l c, e = .returned (.tuple #[.slice a l c, .slice none 0 0]) ∧ w.grownBy w' none := by
  have q48 : ∀ (w : World) (a : Option Addr) (n c n' c' : Nat), (binOp .eql 48 (.slice a n c) (.slice none n' c')).run Try.prog w = .ok (.bool a.isNone) w := fun w a n c n' c' => Lib.run_eql_slice_nil w _ _ a n c n' c' Try.underlying48
  obtain ⟨i0, hi0, hz0, hz1, hz2⟩ := info_parts zinfo55
  go_enter Try.func14, Try.ntmps14
  go_upto_region 3 with (at_make; refine wpList_make_own w rfl _ _ 48 rfl w.heap.size 55 i0 _ 7 Try.underlying48 hi0 hz0 hz1 .i64 .i64 0 0 rfl rfl rfl (by omega) (by unfold maxLen; omega) (Nat.le_refl _) ?_; intro w1 ho1 hg1; have H1 := Lib.hid (And.intro ho1 hg1); clear ho1 hg1)
  go_wp2_with fail
  go_loopg [2, 3, 21] 1 (fun k x y z wx => x = .slice (some ⟨w.heap.size, 0, none⟩) 0 0 ∧ y = .slice none 0 0 ∧ z = .int .i64 0 ∧ Hid (w.grownBy wx none))
  case atStart => exact ⟨rfl, rfl, rfl, Lib.hid H1.out.2⟩
  case round =>
    obtain ⟨rfl, rfl, rfl, HB⟩ := hrel
    go_wp2_with fail
    go_ret2
    exact ⟨_, _, _, rfl, HB.out⟩
set_option maxRecDepth 100000 in
set_option maxHeartbeats 4000000 in
theorem ct1_any (b : Nat) (w : World) (hb : Blk w b 55 (tkC (.pointer none) ⟨#[40]⟩ 33)) : Calls Try.prog 14 #[.slice (some ⟨b, 0, none⟩) 1 1, .slice none 0 0, .slice none 0 0, .slice none 0 0] w fun e w' => ∃ a l c, e = .returned (.tuple #[.slice a l c, .slice none 0 0]) ∧ w.grownBy w' none := by
  have q48 : ∀ (w : World) (a : Option Addr) (n c n' c' : Nat), (binOp .eql 48 (.slice a n c) (.slice none n' c')).run Try.prog w = .ok (.bool a.isNone) w := fun w a n c n' c' => Lib.run_eql_slice_nil w _ _ a n c n' c' Try.underlying48
  obtain ⟨i0, hi0, hz0, hz1, hz2⟩ := info_parts zinfo55
  go_enter Try.func14, Try.ntmps14
  go_upto_region 3 with (at_make; refine wpList_make_own w rfl _ _ 48 rfl w.heap.size 55 i0 _ 7 Try.underlying48 hi0 hz0 hz1 .i64 .i64 1 1 rfl rfl rfl (by omega) (by unfold maxLen; omega) (Nat.le_refl _) ?_; intro w1 ho1 hg1; have H1 := Lib.hid (And.intro ho1 hg1); clear ho1 hg1)
  go_wp2_with fail
  obtain ⟨S, hS⟩ : ∃ S, w.heap.size = S := ⟨_, rfl⟩
  have HS := Lib.hid (And.intro hS hb)
  rw [hS]
  clear hS hb
  go_loopg [2, 3, 21] 1 (fun k x y z wx => y = .slice none 0 0 ∧ ((z = .int .i64 0 ∧ 1 ≤ k ∧ x = .slice (some ⟨S, 0, none⟩) 0 1 ∧ Hid (wx.ownsRow S 55 7 (.slice (some ⟨S, 0, none⟩) 0 1) 0 [] ∧ w.grownBy wx none)) ∨ (z = .int .i64 1 ∧ (∃ a l c, x = .slice a l c) ∧ Hid (w.grownBy wx none))))
  case atStart => exact ⟨rfl, .inl ⟨rfl, by omega, rfl, Lib.hid (by have h := H1.out; rw [HS.out.1] at h; exact h)⟩⟩
  case round =>
    obtain ⟨rfl, hrel⟩ := hrel
    rcases hrel with ⟨rfl, hk, rfl, HB⟩ | ⟨rfl, ⟨a, l, c, rfl⟩, HB⟩
    · obtain ⟨wy, rfl⟩ : ∃ wy : World, wy = wr := ⟨_, rfl⟩
      have hb1 := HS.out.2.gb HB.out.2 (by simp)
      have c0 := hb1.cell 0
      have c1 := hb1.cell 1
      have c2 := hb1.cell 2
      have c3 := hb1.cell 3
      have c4 := hb1.cell 4
      have c5 := hb1.cell 5
      have c6 := hb1.cell 6
      simp only [tkC, List.getElem?_toArray, List.getElem?_cons_zero, List.getElem?_cons_succ] at c0 c1 c2 c3 c4 c5 c6
      go_upto_region 6 with fail
      obtain ⟨T, hT⟩ : ∃ T, wy.heap.size = T := ⟨_, rfl⟩
      have ht := Blk.new wy 55 (tkC (.pointer none) ⟨#[40]⟩ 33)
      rw [hT] at ht
      have H2 : Hid (wy.grownBy (wy.alloc (.cells (tkC (.pointer none) ⟨#[40]⟩ 33) 55)) none ∧ wy.heap.size = T) := Lib.hid ⟨gb_alloc (gb_refl _ _) _, hT⟩
      rw [hT]
      clear hT c0 c1 c2 c3 c4 c5 c6
      change Code.wp _ _ _ _ (wy.alloc (.cells (tkC (.pointer none) ⟨#[40]⟩ 33) 55))
      generalize wy.alloc (.cells (tkC (.pointer none) ⟨#[40]⟩ 33) 55) = w2 at ht H2 ⊢
      have f2 := ht.free 2
      have k2 := (ht.cell 2).trans (show _ = some (.int .i32 0) from rfl)
      have l2 := ht.lt
      have h3 := ht.set 2 (.int .i32 0)
      have h3 : Blk (w2.setCell ⟨T, 2, none⟩ (.int .i32 0)) T 55 (tkC (.pointer none) ⟨#[40]⟩ 33) := h3
      have H3 := Lib.hid h3
      have HG3 : Hid (wy.grownBy (w2.setCell ⟨T, 2, none⟩ (.int .i32 0)) none) := Lib.hid (gb_new (gb_trans (gb_none H2.out.1) (gb_set (gb_refl _ _) _ _ _)) (by rw [H2.out.2]; exact Nat.le_refl _))
      clear h3 ht
      go_upto_region 7 with fail
      clear f2 k2 l2
      generalize w2.setCell ⟨T, 2, none⟩ (.int .i32 0) = w3 at H3 HG3 ⊢
      have hb1 := H3.out
      have c0 := hb1.cell 0
      have c1 := hb1.cell 1
      have c2 := hb1.cell 2
      have c3 := hb1.cell 3
      have c4 := hb1.cell 4
      have c5 := hb1.cell 5
      have c6 := hb1.cell 6
      simp only [tkC, List.getElem?_toArray, List.getElem?_cons_zero, List.getElem?_cons_succ] at c0 c1 c2 c3 c4 c5 c6
      clear hb1
      go_upto_region 15 with fail
      have HO : Hid ((w3.alloc (.cells (tkC (.pointer none) ⟨#[40]⟩ 33) 55)).ownsRow S 55 7 (.slice (some ⟨S, 0, none⟩) 0 1) 0 []) := Lib.hid ((World.ownsRow.kept HB.out.1 HG3.out (row := none) (by cases Value.ownBlock _ <;> simp)).alloc _)
      have HCL : Hid (∀ (j : Nat) (u : Value), (tkC (.pointer none) ⟨#[40]⟩ 33).toList[j]? = some u → (w3.alloc (.cells (tkC (.pointer none) ⟨#[40]⟩ 33) 55)).cell? ((⟨w3.heap.size, 0, none⟩ : Addr).add j) = some u) := Lib.hid (fun j u hj => by
        rw [show (⟨w3.heap.size, 0, none⟩ : Addr).add j = ⟨w3.heap.size, j, none⟩ by unfold Addr.add; split <;> simp_all, (Blk.new w3 55 (tkC (.pointer none) ⟨#[40]⟩ 33)).cell j, ← hj]
        simp)
      have HS3 : Hid (S ≤ (w3.alloc (.cells (tkC (.pointer none) ⟨#[40]⟩ 33) 55)).heap.size ∧ w.grownBy (w3.alloc (.cells (tkC (.pointer none) ⟨#[40]⟩ 33) 55)) none) := Lib.hid (by
        have h := gb_trans HB.out.2 HG3.out
        have := h.size
        have := HS.out.1
        exact ⟨by simp; omega, gb_alloc h _⟩)
      go_wp2_with (at_builtin; refine wpList_append_own_at _ rfl _ _ 48 rfl S 55 i0 _ 7 40 Try.underlying48 hi0 hz0 hz1 hz2 rfl (by decide) (.slice (some ⟨S, 0, none⟩) 0 1) 0 [] rfl HO.out ⟨w3.heap.size, 0, none⟩ 1 1 (tkC (.pointer none) ⟨#[40]⟩ 33).toList rfl rfl HCL.out (by decide) (by decide) (by decide) HS3.out.1 ?_; intro v' w5 ho5 hg5 hn5 hv5; have H5 := Lib.hid (And.intro ho5 hg5); clear ho5 hg5 hn5 hv5)
      go_roundg 0
      case measure => omega
      case rel =>
        obtain ⟨q1, q2⟩ := H5.out
        refine ⟨rfl, .inr ⟨by go_num, ?_, Lib.hid (gb_new (gb_trans (gb_none HS3.out.2) q2) (by rw [HS.out.1]; exact Nat.le_refl _))⟩⟩
        obtain ⟨k1, k2⟩ := q1
        rcases k2 with ⟨_, k3⟩ | ⟨g', cap, cur, rfl, _⟩
        · simp at k3
        · exact ⟨_, _, _, rfl⟩
    · go_wp2_with fail
      go_ret2
      exact ⟨_, _, _, rfl, HB.out⟩
end Go.Proofs.Ytgkekeojdiofnaa
