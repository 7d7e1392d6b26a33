/-
  A new scanner, a file laid. No statement of the seat is proved here.
-/
import Derived.Test.YtffilaoipcjcmaaGreatTs
import Derived.Test.YtffilaoipcjcmaaGreatBz
namespace Go.Proofs.YtffilaoipcjcmaaGreat
open Go.RowKit
set_option linter.unusedVariables false
set_option linter.unusedSimpArgs false

noncomputable def z97 : Array Value := cellsOf ((zeroValue 97).run Tryz.prog default)
theorem alloc97 (w : World) : (Instr.alloc 97 true (.tuple #[])).run Tryz.prog w = .ok (.pointer (some ⟨w.heap.size, 0, none⟩)) (w.alloc (.cells z97 97)) := by kernel_rfl
theorem gb_al (w : World) (o : Obj) : w.grownBy (w.alloc o) none := gb_alloc (gb_refl _ _) _
def pt (k : Nat) : Value := .pointer (some ⟨k, 0, none⟩)
def lgC (k : Nat) : Array Value := #[.func (Fn.func 23) #[] #[pt k, pt (k + 1 + 1 + 1), pt (k + 1 + 1 + 1 + 1), pt (k + 1 + 1)], .func (Fn.func 26) #[] #[pt (k + 1 + 1 + 1), pt (k + 1 + 1 + 1 + 1)], .func (Fn.func 27) #[] #[pt (k + 1 + 1 + 1), pt (k + 1 + 1)], .func (Fn.func 28) #[] #[pt (k + 1 + 1 + 1), pt (k + 1 + 1)], .int .i8 3, .map none]
theorem info97 (k : Nat) : (Tryz.prog.info? 97).map (·.size) = some (lgC k).size := by kernel_rfl
theorem size97 (k : Nat) : z97.size = (lgC k).size := by kernel_rfl
theorem one97 (k : Nat) : (lgC k).all (·.oneCell') = true := by kernel_rfl
def DlE (k : Nat) (e : Ending) : Prop := e = .returned (.agg (lgC k))
set_option maxHeartbeats 4000000 in
set_option maxRecDepth 100000 in
theorem dl_any (w : World) : Calls Tryz.prog 22 #[.int .u8 0, .map none] w fun e w' => DlE w.heap.size e ∧ w.grownBy w' none := by
  have hb : Blk (((((w.alloc (.cells #[.int .u8 0] 158)).alloc (.cells z97 97)).alloc (.cells #[.slice none 0 0] 197)).alloc (.cells #[.int .i32 0, .int .u32 0] 203)).alloc (.cells #[.bool false] 4)) (w.heap.size + 1) 97 z97 := by
    have h := Blk.new (w.alloc (.cells #[.int .u8 0] 158)) 97 z97
    have h2 := ((h.gb (gb_al _ (.cells #[.slice none 0 0] 197)) (by simp)).gb (gb_al _ (.cells #[.int .i32 0, .int .u32 0] 203)) (by simp)).gb (gb_al _ (.cells #[.bool false] 4)) (by simp)
    rw [show (w.alloc (.cells #[.int .u8 0] 158)).heap.size = w.heap.size + 1 by simp] at h2
    exact h2
  have hg : w.grownBy (((((w.alloc (.cells #[.int .u8 0] 158)).alloc (.cells z97 97)).alloc (.cells #[.slice none 0 0] 197)).alloc (.cells #[.int .i32 0, .int .u32 0] 203)).alloc (.cells #[.bool false] 4)) none := gb_alloc (gb_alloc (gb_alloc (gb_alloc (gb_alloc (gb_refl _ _) _) _) _) _) _
  have HB := Lib.hid (And.intro hb hg)
  clear hb hg
  go_enter Tryz.func22, Tryz.ntmps22
  go_upto_region 4 with (refine wpList_alloc_zero rfl 97 rfl z97 alloc97 ?_)
  go_wp2_with (refine wpList_store_blk rfl 97 (.tmp 4) (.tmp 13) rfl (w.heap.size + 1) z97 (lgC w.heap.size) HB.out.1 rfl rfl (size97 _) (info97 _) (one97 _) ?_; intro w5 hb5 hg5; have H5 := Lib.hid (And.intro hb5 hg5); clear hb5 hg5)
  simp only [Act.put]
  refine bodyPost_ret (v := .agg (lgC w.heap.size)) (results_cell_row (d := _) Tryz.results22 _ _ (w.heap.size + 1) 97 _ (0, 0) (by rfl) H5.out.1 Tryz.underlying97 rfl (info97 _)) rfl ⟨rfl, ?_⟩
  exact gb_new (gb_trans (gb_none HB.out.2) H5.out.2) (by omega)
noncomputable def z90 : Array Value := cellsOf ((zeroValue 90).run Tryz.prog default)
theorem zinfo90 : (Tryz.prog.info? 90).map (fun i => (i.zero, i.size, decide (i.bytes ≤ 4096))) = some (some (.agg z90), 27, true) := by kernel_rfl
theorem makeF (n : Nat) (hn : n ≤ 4096) (w : World) : (Instr.makeSlice 103 (.int .i64 n) (.int .i64 n)).run Tryz.prog w = .ok (.slice (some ⟨w.heap.size, 0, none⟩) n n) (w.alloc (.cells (madeCells z90 (n * 27)) 90)) := by
  have h := zinfo90
  cases hi : Tryz.prog.info? 90 with
  | none => rw [hi] at h; simp at h
  | some i =>
    rw [hi] at h
    simp only [Option.map_some, Option.some.injEq, Prod.mk.injEq, decide_eq_true_eq] at h
    obtain ⟨h1, h2, h3⟩ := h
    have hb : (i.bytes : Int) * (n : Int) ≤ 281474976710656 := by
      have h4 : i.bytes * n ≤ 4096 * 4096 := Nat.mul_le_mul h3 hn
      have h5 : ((i.bytes * n : Nat) : Int) = (i.bytes : Int) * (n : Int) := by simp
      omega
    have k := run_make (P := Tryz.prog) w 103 90 i _ Tryz.underlying103 hi h1 .i64 .i64 n n (by omega) (Int.le_refl _) hb (by omega)
    rw [h2] at k
    simpa [Value.cells] using k
theorem gb_drew1 (w : World) : w.grownBy w.drew none := ⟨rfl, rfl, rfl, Nat.le_refl _, fun _ _ _ => rfl⟩
noncomputable def scC (g n k : Nat) : Array Value := cellsOf ((Instr.build 156 #[(6, .slice (some ⟨g, 0, none⟩) n n), (0, .agg (lgC k))]).run Tryz.prog default)
theorem build156 (g n k : Nat) (w : World) : (Instr.build 156 #[(6, .slice (some ⟨g, 0, none⟩) n n), (0, .agg (lgC k))]).run Tryz.prog w = .ok (.agg (scC g n k)) w := by kernel_rfl
theorem sc11 (g n k : Nat) : (scC g n k)[11]? = some (.slice (some ⟨g, 0, none⟩) n n) := by kernel_rfl
theorem step_make {P : Program} {ops : Array Oper} {o : Oper} {a : Act} {w : World} {K : Act → World → Prop} {Q : Exit → Act → World → Prop} {E : Prop} (hw : Region.wanted o (yielded ops a.tmps) = true) (t : TypeId) (l c : Operand) (ho : o.op = .makeSlice t l c) (v : Value) (w' : World)
    (hz : (Instr.makeSlice t (a.eval l) (a.eval c)).run P w = .ok v w') (h : K (a.put o.dst v) w') : if Region.wanted o (yielded ops a.tmps) = true then Oper.wp P o a w K Q else E := by
  rw [if_pos hw]
  unfold Oper.wp execOp
  simp only [ho, hz, Sem.run_bind, Result.andThen_ok]
  exact h
/-- a new scanner over n results -/
structure Sn (w w' : World) (n S F : Nat) : Prop where
  s : ∃ cs, Blk w' S 156 cs ∧ cs[11]? = some (.slice (some ⟨F, 0, none⟩) n n)
  f : Blk w' F 90 (madeCells z90 (n * 27))
  lo : w.heap.size ≤ S ∧ w.heap.size ≤ F
  g : w.grownBy w' none
def SnE (w : World) (n : Nat) (e : Ending) (w' : World) : Prop := ∃ S F, e = .returned (.pointer (some ⟨S, 0, none⟩)) ∧ Sn w w' n S F
set_option maxHeartbeats 4000000 in
set_option maxRecDepth 100000 in
theorem sn_any (n : Nat) (hn : n ≤ 4096) (w : World) : Calls Tryz.prog 15 #[.int .i64 (n : Int)] w (SnE w n) := by
  go_enter Tryz.func15, Tryz.ntmps15
  go_upto_region 1 with fail
  refine wp_region_held_drew (S := fun w' => w.grownBy w' none) (by kernel_rfl) (gb_drew1 w) (fun hH => ?_)
  refine wpAnyH_take (i := 0) (v := .int .i64 n) rfl (by kernel_rfl) (by kernel_rfl) (by kernel_rfl) (fun _ _ _ h => h) (Or.inl ⟨by rfl, fun w _ => by go_simp⟩) hH ?_
  (try simp only [Act.put])
  refine wpAnyH_ready (rs := [1, 2]) (by kernel_rfl) (by simp) ?_
  refine AllReadyH.cons rfl (fun K hK => ?_) (AllReadyH.cons rfl (fun K hK => ?_) AllReadyH.nil)
  · refine step_make (by rfl) 103 _ _ rfl _ _ (makeF n hn _) ?_
    have hF0 := Blk.new w.drew 90 (madeCells z90 (n * 27))
    have hF1 : w.heap.size ≤ w.drew.heap.size := Nat.le_refl _
    have hH1 := gb_trans hH (gb_al w.drew (.cells (madeCells z90 (n * 27)) 90))
    generalize w.drew.heap.size = F at hF0 hF1 ⊢
    generalize w.drew.alloc (.cells (madeCells z90 (n * 27)) 90) = w1 at hF0 hH1 ⊢
    refine hK.out _ _ hH1 (fun _ => ?_)
    (try simp only [Act.put])
    refine wpAnyH_ready (rs := [2]) (by kernel_rfl) (by simp) ?_
    refine AllReadyH.cons rfl (fun K hK1 => ?_) AllReadyH.nil
    · go_simp
      refine (dl_any _).mono ?_
      rintro e w2 ⟨he, hg⟩
      unfold DlE at he
      subst he
      have hH2 := gb_trans hH1 hg
      have hF := hF0.gb hg (by simp)
      have hFlo := hF1
      generalize w1.heap.size = k
      go_wp2_with fail
      refine hK1.out _ _ hH2 (fun _ => ?_)
      (try simp only [Act.put])
      refine wpAnyH_take (i := 3) rfl (by kernel_rfl) (by kernel_rfl) (by kernel_rfl) (fun _ _ _ h => h) (yieldsIf_build (by rfl) 156 _ rfl [(6, .slice (some ⟨F, 0, none⟩) n n), (0, .agg (lgC k))] rfl (scC F n k) (build156 F n k)) hH2 ?_
      (try simp only [Act.put])
      refine wpAnyH_ready (rs := [4]) (by kernel_rfl) (by simp) ?_
      refine AllReadyH.cons rfl (fun K hK2 => ?_) AllReadyH.nil
      go_simp
      have hb2 := Blk.new w2 156 (scC F n k)
      refine hK2.out _ _ (gb_trans hH2 (gb_al _ _)) (fun _ => ?_)
      refine wpAnyH_take (i := 5) (v := .pointer (some ⟨w2.heap.size, 0, none⟩)) rfl (by kernel_rfl) (by kernel_rfl) (by kernel_rfl) (fun _ _ _ h => h) (Or.inl ⟨by rfl, fun w _ => by go_simp⟩) (gb_trans hH2 (gb_al _ _)) ?_
      (try simp only [Act.put])
      refine wpAnyH_done (by kernel_rfl) ?_ _
      go_simp
      go_wp2_with fail
      go_ret
      exact ⟨w2.heap.size, F, rfl, ⟨⟨_, hb2, sc11 F n k⟩, hF.gb (gb_al _ _) (by simp), ⟨hH2.size, hFlo⟩, gb_trans hH2 (gb_al _ _)⟩⟩
  · go_simp
    refine (dl_any _).mono ?_
    rintro e w1 ⟨he, hg⟩
    unfold DlE at he
    subst he
    have hH1 := gb_trans hH hg
    generalize w.drew.heap.size = k
    go_wp2_with fail
    refine hK.out _ _ hH1 (fun _ => ?_)
    (try simp only [Act.put])
    refine wpAnyH_ready (rs := [1]) (by kernel_rfl) (by simp) ?_
    refine AllReadyH.cons rfl (fun K hK1 => ?_) AllReadyH.nil
    · refine step_make (by rfl) 103 _ _ rfl _ _ (makeF n hn _) ?_
      have hF := Blk.new w1 90 (madeCells z90 (n * 27))
      have hFlo : w.heap.size ≤ w1.heap.size := hH1.size
      have hH2 := gb_trans hH1 (gb_al w1 (.cells (madeCells z90 (n * 27)) 90))
      generalize w1.heap.size = F at hF hFlo ⊢
      generalize w1.alloc (.cells (madeCells z90 (n * 27)) 90) = w2 at hF hH2 ⊢
      refine hK1.out _ _ hH2 (fun _ => ?_)
      (try simp only [Act.put])
      refine wpAnyH_take (i := 3) rfl (by kernel_rfl) (by kernel_rfl) (by kernel_rfl) (fun _ _ _ h => h) (yieldsIf_build (by rfl) 156 _ rfl [(6, .slice (some ⟨F, 0, none⟩) n n), (0, .agg (lgC k))] rfl (scC F n k) (build156 F n k)) hH2 ?_
      (try simp only [Act.put])
      refine wpAnyH_ready (rs := [4]) (by kernel_rfl) (by simp) ?_
      refine AllReadyH.cons rfl (fun K hK2 => ?_) AllReadyH.nil
      go_simp
      have hb2 := Blk.new w2 156 (scC F n k)
      refine hK2.out _ _ (gb_trans hH2 (gb_al _ _)) (fun _ => ?_)
      refine wpAnyH_take (i := 5) (v := .pointer (some ⟨w2.heap.size, 0, none⟩)) rfl (by kernel_rfl) (by kernel_rfl) (by kernel_rfl) (fun _ _ _ h => h) (Or.inl ⟨by rfl, fun w _ => by go_simp⟩) (gb_trans hH2 (gb_al _ _)) ?_
      (try simp only [Act.put])
      refine wpAnyH_done (by kernel_rfl) ?_ _
      go_simp
      go_wp2_with fail
      go_ret
      exact ⟨w2.heap.size, F, rfl, ⟨⟨_, hb2, sc11 F n k⟩, hF.gb (gb_al _ _) (by simp), ⟨hH2.size, hFlo⟩, gb_trans hH2 (gb_al _ _)⟩⟩
/-! a file laid -/
def awz : ByteArray := ⟨#[97, 119, 97, 105, 116, 32, 48, 59, 10]⟩
noncomputable def s83 (i : Int) : Array Value := cellsOf ((Instr.build 83 #[(4, .int .u32 i), (2, .string awz)]).run Tryz.prog default)
theorem build83 (i : Int) (w : World) : (Instr.build 83 #[(4, .int .u32 i), (2, .string awz)]).run Tryz.prog w = .ok (.agg (s83 i)) w := by kernel_rfl
noncomputable def r59 (t : Int) : Array Value := cellsOf ((Instr.build 59 #[(1, .int .i32 t)]).run Tryz.prog default)
theorem build59 (t : Int) (w : World) : (Instr.build 59 #[(1, .int .i32 t)]).run Tryz.prog w = .ok (.agg (r59 t)) w := by kernel_rfl
noncomputable def a182 (ao : Option Addr) (m cap : Nat) (t : Int) : Array Value := cellsOf ((Instr.build 182 #[(15, .slice ao m cap), (22, .agg (r59 t))]).run Tryz.prog default)
theorem build182 (ao : Option Addr) (m cap : Nat) (t : Int) (w : World) : (Instr.build 182 #[(15, .slice ao m cap), (22, .agg (r59 t))]).run Tryz.prog w = .ok (.agg (a182 ao m cap t)) w := by kernel_rfl
noncomputable def j193 (ao : Option Addr) (m cap : Nat) (t : Int) : Array Value := cellsOf ((Instr.build 193 #[(1, .agg (a182 ao m cap t))]).run Tryz.prog default)
theorem build193 (ao : Option Addr) (m cap : Nat) (t : Int) (w : World) : (Instr.build 193 #[(1, .agg (a182 ao m cap t))]).run Tryz.prog w = .ok (.agg (j193 ao m cap t)) w := by kernel_rfl
theorem j47 (ao : Option Addr) (m cap : Nat) (t : Int) : (j193 ao m cap t)[47]? = some (.int .i32 t) := by kernel_rfl
theorem j35 (ao : Option Addr) (m cap : Nat) (t : Int) : (j193 ao m cap t)[35]? = some (.slice ao m cap) := by kernel_rfl
noncomputable def f86 (i : Int) (p : Nat) : Array Value := cellsOf ((Instr.build 86 #[(5, .agg (s83 i)), (0, .iface 159 (.pointer (some ⟨p, 0, none⟩)))]).run Tryz.prog default)
theorem build86 (i : Int) (p : Nat) (w : World) : (Instr.build 86 #[(5, .agg (s83 i)), (0, .iface 159 (.pointer (some ⟨p, 0, none⟩)))]).run Tryz.prog w = .ok (.agg (f86 i p)) w := by kernel_rfl
noncomputable def f88 (i : Int) (p : Nat) : Array Value := cellsOf ((Instr.build 88 #[(2, .agg (f86 i p))]).run Tryz.prog default)
theorem build88 (i : Int) (p : Nat) (w : World) : (Instr.build 88 #[(2, .agg (f86 i p))]).run Tryz.prog w = .ok (.agg (f88 i p)) w := by kernel_rfl
noncomputable def p90 (i : Int) (p : Nat) : Array Value := cellsOf ((Instr.build 90 #[(4, .bool true), (2, .agg (f88 i p))]).run Tryz.prog default)
theorem build90 (i : Int) (p : Nat) (w : World) : (Instr.build 90 #[(4, .bool true), (2, .agg (f88 i p))]).run Tryz.prog w = .ok (.agg (p90 i p)) w := by kernel_rfl
theorem p90_26 (i : Int) (p : Nat) : (p90 i p)[26]? = some (.bool true) := by kernel_rfl
theorem p90_4 (i : Int) (p : Nat) : (p90 i p)[4]? = some (.iface 159 (.pointer (some ⟨p, 0, none⟩))) := by kernel_rfl
theorem p90_22 (i : Int) (p : Nat) : (p90 i p)[22]? = some (.int .u32 0) := by kernel_rfl
theorem p90_23 (i : Int) (p : Nat) : (p90 i p)[23]? = some (.int .u32 0) := by kernel_rfl
theorem p90_24 (i : Int) (p : Nat) : (p90 i p)[24]? = some (.int .u32 0) := by kernel_rfl
theorem p90_25 (i : Int) (p : Nat) : (p90 i p)[25]? = some (.int .u32 0) := by kernel_rfl
theorem p90_size (i : Int) (p : Nat) : (p90 i p).size = 27 := by kernel_rfl
theorem info90 (i : Int) (p : Nat) : (Tryz.prog.info? 90).map (·.size) = some (p90 i p).size := by kernel_rfl
theorem one90 (i : Int) (p : Nat) : (p90 i p).all (·.oneCell') = true := by kernel_rfl
theorem z90_26 : z90[26]? = some (.bool false) := by kernel_rfl
theorem z90_22 : z90[22]? = some (.int .u32 0) := by kernel_rfl
theorem z90_23 : z90[23]? = some (.int .u32 0) := by kernel_rfl
theorem z90_24 : z90[24]? = some (.int .u32 0) := by kernel_rfl
theorem z90_25 : z90[25]? = some (.int .u32 0) := by kernel_rfl
theorem z90_size : z90.size = 27 := by kernel_rfl
/-- what laying file i leaves -/
def Laid (w w' : World) (F : Nat) (cs : Array Value) (i : Nat) (t : Int) (ao : Option Addr) (m cap : Nat) : Prop :=
  ∃ p cs', (∃ js, Blk w' p 193 js ∧ js[47]? = some (.int .i32 t) ∧ js[35]? = some (.slice ao m cap)) ∧ w.heap.size ≤ p ∧ Blk w' F 90 cs' ∧ cs'.size = cs.size ∧ (∀ j, j < i * 27 ∨ i * 27 + 27 ≤ j → cs'[j]? = cs[j]?) ∧ (∀ j, j < 27 → cs'[i * 27 + j]? = (p90 i p)[j]?) ∧ w.grownBy w' (some F)
def LaidE (w : World) (F : Nat) (cs : Array Value) (i : Nat) (t : Int) (ao : Option Addr) (m cap : Nat) (e : Ending) (w' : World) : Prop := e = .returned (.tuple #[]) ∧ Laid w w' F cs i t ao m cap
set_option maxHeartbeats 4000000 in
set_option maxRecDepth 100000 in
theorem sj_any (S F n : Nat) (cs : Array Value) (i : Nat) (t : Int) (ao : Option Addr) (m cap : Nat) (hi : i < n) (hn : n ≤ 4096) (w : World) (hc : w.cell? ⟨S, 11, none⟩ = some (.slice (some ⟨F, 0, none⟩) n n)) (lS : S < w.heap.size) (hb : Blk w F 90 cs) (hsz : cs.size = n * 27) :
    Calls Tryz.prog 18 #[.pointer (some ⟨S, 0, none⟩), .int .i64 (i : Int), .int .i32 t, .slice ao m cap] w (LaidE w F cs i t ao m cap) := by
  have hwi : IntKind.u32.wrap (i : Int) = (i : Int) := by rw [IntKind.wrap_u32]; omega
  obtain ⟨p, hp⟩ : ∃ p, w.heap.size = p := ⟨_, rfl⟩
  have hbj := Blk.new w 193 (j193 ao m cap t)
  rw [hp] at hbj
  have hbF := hb.gb (show w.grownBy (w.alloc (.cells (j193 ao m cap t) 193)) none from gb_alloc (gb_refl _ _) _) (by simp)
  have HB := Lib.hid (And.intro hbj (And.intro hbF (And.intro hsz (And.intro hp (And.intro hb.lt hi)))))
  clear hbj hbF hb hsz hp
  go_enter Tryz.func18, Tryz.ntmps18
  go_wp2_with (first
    | (refine wpList_build rfl 83 _ rfl [(4, .int .u32 (i : Int)), (2, .string awz)] rfl (s83 i) (build83 i) ?_)
    | (refine wpList_build rfl 59 _ rfl [(1, .int .i32 t)] rfl (r59 t) (build59 t) ?_)
    | (refine wpList_build rfl 182 _ rfl [(15, .slice ao m cap), (22, .agg (r59 t))] rfl (a182 ao m cap t) (build182 ao m cap t) ?_)
    | (refine wpList_build rfl 193 _ rfl [(1, .agg (a182 ao m cap t))] rfl (j193 ao m cap t) (build193 ao m cap t) ?_)
    | (refine wpList_build rfl 86 _ rfl [(5, .agg (s83 i)), (0, .iface 159 (.pointer (some ⟨w.heap.size, 0, none⟩)))] rfl (f86 i w.heap.size) (build86 i w.heap.size) ?_)
    | (refine wpList_build rfl 88 _ rfl [(2, .agg (f86 i w.heap.size))] rfl (f88 i w.heap.size) (build88 i w.heap.size) ?_)
    | (refine wpList_build rfl 90 _ rfl [(4, .bool true), (2, .agg (f88 i w.heap.size))] rfl (p90 i w.heap.size) (build90 i w.heap.size) ?_)
    | (refine wpList_store_mid rfl 90 _ _ rfl F (i * 27) cs (p90 i w.heap.size) HB.out.2.1 rfl rfl (by rw [p90_size, HB.out.2.2.1]; have := HB.out.2.2.2.2.2; omega) (info90 _ _) (one90 _ _) ?_; intro w2 cs2 hb2 hs2 ho2 hn2 hg2; have H2 := Lib.hid (And.intro hb2 (And.intro hs2 (And.intro ho2 (And.intro hn2 hg2)))); clear hb2 hs2 ho2 hn2 hg2))
  go_end0
  obtain ⟨h1, h2, h3, h4, h5⟩ := H2.out
  obtain ⟨k1, k2, k3, k4, k5, k6⟩ := HB.out
  rw [p90_size] at h3 h4
  rw [k4] at h4
  refine ⟨rfl, p, cs2, ⟨_, k1.gb h5 (fun e => by have := Option.some.inj e; omega), j47 .., j35 ..⟩, by omega, h1, h2, h3, h4, gb_trans (gb_none (gb_al _ _)) h5⟩
end Go.Proofs.YtffilaoipcjcmaaGreat
