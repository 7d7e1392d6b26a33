/-
  A linker's file, a row of bits, a linker's context. No statement of the seat is proved here.
-/
import Derived.Test.YtebecbidodnneaaMid
namespace Go.Proofs.Ytebecbidodnneaa
open Go.RowKit
set_option linter.unusedVariables false
set_option linter.unusedSimpArgs false

def lfL (r : Value) : List Value := [.slice none 0 0, .pointer none, r, .pointer none, .slice none 0 0, .string ⟨#[]⟩, .pointer none, .int .u8 0, .string ⟨#[]⟩, .string ⟨#[]⟩, .string ⟨#[]⟩, .string ⟨#[]⟩, .string ⟨#[]⟩, .string ⟨#[]⟩, .string ⟨#[]⟩, .string ⟨#[]⟩, .int .u8 0, .int .u32 0, .int .u8 0, .bool false, .int .u32 0, .int .u32 0, .int .u8 0, .bool false]
noncomputable def lfA (r : Value) : Array Value := (lfL r).toArray
theorem lf_und : (Try.prog.underlying 60).map (·.isRow) = some true := by kernel_rfl
theorem alloc60 (w : World) : (Instr.alloc 60 true (.tuple #[])).run Try.prog w = .ok (.pointer (some ⟨w.heap.size, 0, none⟩)) (w.alloc (.cells (lfA .nilIface) 60)) := by kernel_rfl
theorem info60 (r : Value) : (Try.prog.info? 60).map (·.size) = some (lfA r).size := by kernel_rfl
theorem lf_set (r r' : Value) : (lfA r).setIfInBounds 2 r' = lfA r' := by kernel_rfl
theorem lf_one (p : Nat) : (lfA (.iface 123 (.pointer (some ⟨p, 0, none⟩)))).all (·.oneCell') = true := by kernel_rfl
theorem mi123 (p : Nat) (w : World) : (Instr.makeInterface 123 (.pointer (some ⟨p, 0, none⟩))).run Try.prog w = .ok (.iface 123 (.pointer (some ⟨p, 0, none⟩))) w := by kernel_rfl
set_option maxRecDepth 100000 in
set_option maxHeartbeats 4000000 in
theorem jf_any (p : Nat) (w : World) : Calls Try.prog 11 #[.pointer (some ⟨p, 0, none⟩)] w fun e w' => e = .returned (.agg (lfA (.iface 123 (.pointer (some ⟨p, 0, none⟩))))) ∧ w.grownBy w' none := by
  obtain ⟨A, hA⟩ : ∃ A, w.heap.size = A := ⟨_, rfl⟩
  have hA1 : (w.alloc (.cells (lfA .nilIface) 60)).heap.size = A + 1 := by simp [hA]
  have h1 := Blk.new w 60 (lfA .nilIface)
  rw [hA] at h1
  have h2 := Blk.new (w.alloc (.cells (lfA .nilIface) 60)) 60 (lfA .nilIface)
  rw [hA1] at h2
  have H1 : Hid (Blk ((w.alloc (.cells (lfA .nilIface) 60)).alloc (.cells (lfA .nilIface) 60)) A 60 (lfA .nilIface) ∧ Blk ((w.alloc (.cells (lfA .nilIface) 60)).alloc (.cells (lfA .nilIface) 60)) (A + 1) 60 (lfA .nilIface) ∧ w.grownBy ((w.alloc (.cells (lfA .nilIface) 60)).alloc (.cells (lfA .nilIface) 60)) none) := Lib.hid ⟨h1.alloc _, h2, gb_alloc (gb_alloc (gb_refl _ _) _) _⟩
  have HAW := Lib.hid hA
  clear h1 h2
  go_enter Try.func11, Try.ntmps11
  go_upto_region 2 with (refine wpList_alloc_zero rfl 60 rfl (lfA .nilIface) alloc60 ?_)
  try rw [hA1]
  try rw [hA]
  clear hA1 hA
  generalize (w.alloc (.cells (lfA .nilIface) 60)).alloc (.cells (lfA .nilIface) 60) = w2 at H1 ⊢
  have f2 := H1.out.2.1.free 2
  have k2 : w2.cell? ⟨A + 1, 2, none⟩ = some .nilIface := H1.out.2.1.cell 2
  have l2 := H1.out.2.1.lt
  have hmi := mi123 p w2
  have H2 : Hid (Blk (w2.setCell ⟨A + 1, 2, none⟩ (.iface 123 (.pointer (some ⟨p, 0, none⟩)))) A 60 (lfA .nilIface) ∧ Blk (w2.setCell ⟨A + 1, 2, none⟩ (.iface 123 (.pointer (some ⟨p, 0, none⟩)))) (A + 1) 60 (lfA (.iface 123 (.pointer (some ⟨p, 0, none⟩)))) ∧ w.grownBy (w2.setCell ⟨A + 1, 2, none⟩ (.iface 123 (.pointer (some ⟨p, 0, none⟩)))) none) := Lib.hid (by
    have hg : w2.grownBy (w2.setCell ⟨A + 1, 2, none⟩ (.iface 123 (.pointer (some ⟨p, 0, none⟩)))) (some (A + 1)) := gb_set (gb_refl _ _) _ _ _
    refine ⟨H1.out.1.gb hg (fun e => by have := Option.some.inj e; omega), ?_, gb_new (gb_trans (gb_none H1.out.2.2) hg) (by have := HAW.out; omega)⟩
    have := H1.out.2.1.set 2 (.iface 123 (.pointer (some ⟨p, 0, none⟩)))
    rwa [lf_set] at this)
  go_upto_region 3 with fail
  clear f2 k2 l2 hmi
  generalize w2.setCell ⟨A + 1, 2, none⟩ (.iface 123 (.pointer (some ⟨p, 0, none⟩))) = w3 at H2 ⊢
  obtain ⟨D, hD⟩ : ∃ D, Try.prog.underlying 60 = some D := ⟨_, Try.underlying60⟩
  have hDr : D.isRow = true := by have := lf_und; rw [hD] at this; exact Option.some.inj this
  have HDR := Lib.hid (And.intro hD hDr)
  clear hD hDr
  go_wp2_with (first | (refine Go.wpList_load_mid rfl 60 _ rfl (A + 1) 0 rfl (lfA (.iface 123 (.pointer (some ⟨p, 0, none⟩)))).toList D H2.out.2.1.range HDR.out.1 HDR.out.2 (info60 _) ?_) | (refine wpList_store_blk rfl 60 _ _ rfl A (lfA .nilIface) (lfA (.iface 123 (.pointer (some ⟨p, 0, none⟩)))) H2.out.1 rfl rfl rfl (info60 _) (lf_one p) ?_; intro w5 hb5 hg5))
  simp only [Act.put]
  refine bodyPost_ret (v := .agg (lfA (.iface 123 (.pointer (some ⟨p, 0, none⟩))))) (results_cell_row (d := _) Try.results11 _ _ A 60 _ (0, 0) (by rfl) hb5 Try.underlying60 rfl (info60 _)) rfl ⟨rfl, ?_⟩
  exact gb_new (gb_trans (gb_none H2.out.2.2) hg5) (by have := HAW.out; omega)
theorem zinfo5 : (Try.prog.info? 5).map (fun i => (i.zero, i.size, i.bytes)) = some (some (.int .u8 0), 1, 1) := by kernel_rfl
set_option maxRecDepth 100000 in
set_option maxHeartbeats 4000000 in
theorem bs_any (w : World) : Calls Try.prog 12 #[.int .u64 256] w fun e w' => (∃ b, e = .returned (.agg #[.slice (some ⟨b, 0, none⟩) 32 32])) ∧ w.grownBy w' none := by
  have hb := Blk.new w 36 #[.slice none 0 0]
  have HB := Lib.hid hb
  clear hb
  go_enter Try.func12, Try.ntmps12
  go_wp2_with (at_make; refine wpList_make_blku _ rfl _ _ 34 rfl 5 (.int .u8 0) 1 1 Try.underlying34 zinfo5 32 rfl rfl (by omega) (by unfold maxLen; omega) ?_; intro w3 hb3 hg3; have hbA := HB.out.gb hg3 (by simp); have k0 := hbA.cell 0; have f0 := hbA.free 0; have l0 := hbA.lt; have H3 := Lib.hid (And.intro hg3 hbA); clear hb3 hg3 hbA)
  have hs := H3.out.2.set 0 (.slice (some ⟨w.heap.size + 1, 0, none⟩) 32 32)
  simp only [List.setIfInBounds_toArray, List.set_cons_zero] at hs
  refine bodyPost_ret (v := .agg #[.slice (some ⟨w.heap.size + 1, 0, none⟩) 32 32]) (results_cell_row (d := _) Try.results12 _ _ w.heap.size 36 _ (0, 0) (by rfl) hs Try.underlying36 rfl (by kernel_rfl)) rfl ⟨⟨_, rfl⟩, ?_⟩
  exact gb_new (gb_trans (gb_none (gb_trans (gb_alloc (gb_refl _ _) _) H3.out.1)) (gb_set (gb_refl _ (some w.heap.size)) _ _ _)) (Nat.le_refl _)
noncomputable def lgC (a : Option Addr) (n : Nat) : Array Value := cellsOf ((Instr.build 194 #[(0, .slice a n n)]).run Try.prog default)
noncomputable def lcC (q : Nat) (a : Option Addr) (n : Nat) : Array Value := cellsOf ((Instr.build 212 #[(0, .pointer (some ⟨q, 0, none⟩)), (5, .agg (lgC a n))]).run Try.prog default)
theorem build194 (a : Option Addr) (n : Nat) (w : World) : (Instr.build 194 #[(0, .slice a n n)]).run Try.prog w = .ok (.agg (lgC a n)) w := by kernel_rfl
theorem build212 (q : Nat) (a : Option Addr) (n : Nat) (w : World) : (Instr.build 212 #[(0, .pointer (some ⟨q, 0, none⟩)), (5, .agg (lgC a n))]).run Try.prog w = .ok (.agg (lcC q a n)) w := by kernel_rfl
theorem lc10 (q : Nat) (a : Option Addr) (n : Nat) : (lcC q a n)[10]? = some (.slice a n n) := by kernel_rfl
theorem lc0 (q : Nat) (a : Option Addr) (n : Nat) : (lcC q a n)[0]? = some (.pointer (some ⟨q, 0, none⟩)) := by kernel_rfl
set_option maxRecDepth 100000 in
set_option maxHeartbeats 4000000 in
theorem nl_any (q : Nat) (a : Option Addr) (n : Nat) (w : World) : Calls Try.prog 13 #[.pointer (some ⟨q, 0, none⟩), .slice a n n] w fun e w' => ∃ C, e = .returned (.pointer (some ⟨C, 0, none⟩)) ∧ (∃ cs, Blk w' C 212 cs ∧ cs[0]? = some (.pointer (some ⟨q, 0, none⟩)) ∧ cs[10]? = some (.slice a n n)) ∧ w.grownBy w' none := by
  go_enter Try.func13, Try.ntmps13
  go_wp2_with (first
    | (refine wpList_build rfl 194 _ rfl [(0, .slice a n n)] rfl (lgC a n) (build194 a n) ?_)
    | (refine wpList_build rfl 212 _ rfl [(0, .pointer (some ⟨q, 0, none⟩)), (5, .agg (lgC a n))] rfl (lcC q a n) (build212 q a n) ?_))
  go_ret
  exact ⟨_, rfl, ⟨_, Blk.new w 212 (lcC q a n), lc0 _ _ _, lc10 _ _ _⟩, gb_alloc (gb_refl _ _) _⟩
end Go.Proofs.Ytebecbidodnneaa
