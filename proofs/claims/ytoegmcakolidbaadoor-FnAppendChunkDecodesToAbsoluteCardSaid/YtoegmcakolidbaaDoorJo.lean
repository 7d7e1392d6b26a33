/-
  helpers.Joiner: AddBytes, LastByte. No statement of the seat is proved here.
-/
import Derived.Test.YtoegmcakolidbaaDoorRows
import Derived.Test.YtoegmcakolidbaaDoorAmb
import Derived.Test.YtoegmcakolidbaaDoorFr
import Derived.Deep.RegionLaw
import Derived.Deep.CutBlock
import Derived.Deep.DeepCutAuto
import Derived.Maps.AppendAt
namespace Go.Proofs.YtoegmcakolidbaaDoor
open Go.RowKit
set_option linter.unusedVariables false
/-- a piece: its slice (address, length, room), its place -/
structure Pc where
  ao : Option Addr
  n : Nat
  cap : Nat
  off : Nat
def Pc.v (t : Pc) : Value := .slice t.ao t.n t.cap
def Pc.cells (t : Pc) : List Value := [.slice t.ao t.n t.cap, .int .u32 t.off]
def pcRow (ts : List Pc) : List Value := ts.flatMap Pc.cells
theorem pcRow_length (ts : List Pc) : (pcRow ts).length = ts.length * 2 := by
  induction ts with
  | nil => rfl
  | cons t ts ih => rw [show pcRow (t :: ts) = t.cells ++ pcRow ts from rfl, List.length_append, ih, List.length_cons]; show 2 + _ = _; omega
theorem pcRow_snoc (ts : List Pc) (t : Pc) : pcRow (ts ++ [t]) = pcRow ts ++ t.cells := by simp [pcRow]
/-- v is a slice of pieces of the call's own that reads as ts -/
def OwnP (w : World) (B : Nat) (v : Value) (ts : List Pc) : Prop := w.ownsRow B 58 2 v ts.length (pcRow ts)
theorem info58 : (Tryd.prog.info? 58).map (fun i => (i.zero, i.size, i.bytes)) = some (some (.agg #[.slice none 0 0, .int .u32 0]), 2, 32) := by kernel_rfl
/-- 'append(j.bytes, piece)' -/
theorem wpList_pushP {P : Program} (w : World) {ops : Array Oper} {rest : List Oper} {o : Oper} {a : Act} {Q : Exit → Act → World → Prop} (hgd : o.guard = none) (s x : Operand) (t : TypeId)
    (ho : o.op = .call { callee := .builtin .append, args := #[s, x], argTypes := #[t, t] }) (B : Nat) (ht : P.underlying t = some (.slice 58)) (bytes : Nat) (z : Value) (hz3 : z.cells.size = 2)
    (hinfo : (P.info? 58).map (fun i => (i.zero, i.size, i.bytes)) = some (some z, 2, bytes)) (v : Value) (ts : List Pc) (tb : Pc) (hs : a.eval s = v) (hown : OwnP w B v ts)
    (g : Nat) (hx : a.eval x = .slice (some ⟨g, 0, none⟩) 1 1) (hb : Blk w g 58 tb.cells.toArray) (h63 : ts.length + 1 ≤ maxLen) (hby : (ts.length + 1) * bytes ≤ 140737488355328) (hB : B ≤ w.heap.size)
    (h : ∀ v' w', OwnP w' B v' (ts ++ [tb]) → w.grownBy w' v.ownBlock → (v'.ownBlock = v.ownBlock ∨ v'.ownBlock = some w.heap.size) → wpList P ops Q rest (a.put o.dst v') w') : wpList P ops Q (o :: rest) a w := by
  obtain ⟨i0, hi, hz0, hz1, hz2⟩ := info_parts hinfo
  refine wpList_append_own_at _ hgd s x t ho B 58 i0 z 2 bytes ht hi hz0 hz1 hz2 hz3 (by decide) v ts.length (pcRow ts) hs hown ⟨g, 0, none⟩ 1 1 tb.cells hx rfl ?_ (fun u hu => ?_) h63 hby hB ?_
  · intro j u hj
    have e : (⟨g, 0, none⟩ : Addr).add j = ⟨g, j, none⟩ := by unfold Addr.add; split <;> simp_all
    rw [e, hb.cell j, ← hj]; simp
  · simp only [Pc.cells, List.mem_cons, List.not_mem_nil, or_false] at hu
    rcases hu with rfl | rfl <;> rfl
  · intro v' w' h1 h2 h3 h4
    refine h v' w' ?_ h2 h4
    show w'.ownsRow B 58 2 v' (ts ++ [tb]).length (pcRow (ts ++ [tb]))
    rw [pcRow_snoc, List.length_append]; exact h1
/-- .. as one step of a region that draws -/
theorem step_pushP {P : Program} {w : World} {ops : Array Oper} {o : Oper} {a : Act} {K : Act → World → Prop} {Q : Exit → Act → World → Prop} {E : Prop} (hw : Region.wanted o (yielded ops a.tmps) = true) (s x : Operand) (t : TypeId)
    (ho : o.op = .call { callee := .builtin .append, args := #[s, x], argTypes := #[t, t] }) (B : Nat) (ht : P.underlying t = some (.slice 58)) (bytes : Nat) (z : Value) (hz3 : z.cells.size = 2)
    (hinfo : (P.info? 58).map (fun i => (i.zero, i.size, i.bytes)) = some (some z, 2, bytes)) (v : Value) (ts : List Pc) (tb : Pc) (hs : a.eval s = v) (hown : OwnP w B v ts)
    (g : Nat) (hx : a.eval x = .slice (some ⟨g, 0, none⟩) 1 1) (hb : Blk w g 58 tb.cells.toArray) (h63 : ts.length + 1 ≤ maxLen) (hby : (ts.length + 1) * bytes ≤ 140737488355328) (hB : B ≤ w.heap.size)
    (h : ∀ v' w', OwnP w' B v' (ts ++ [tb]) → w.grownBy w' v.ownBlock → (v'.ownBlock = v.ownBlock ∨ v'.ownBlock = some w.heap.size) → K (a.put o.dst v') w') : if Region.wanted o (yielded ops a.tmps) = true then Oper.wp P o a w K Q else E := by
  obtain ⟨i0, hi, hz0, hz1, hz2⟩ := info_parts hinfo
  rw [if_pos hw]
  obtain ⟨v', w', hr, h2, h3, h4, h5⟩ := run_append_own_at (P := P) w B t o.type 58 i0 z 2 bytes ht hi hz0 hz1 hz2 hz3 (by decide) v ts.length (pcRow ts) hown ⟨g, 0, none⟩ 1 1 tb.cells rfl (fun j u hj => by
    have e : (⟨g, 0, none⟩ : Addr).add j = ⟨g, j, none⟩ := by unfold Addr.add; split <;> simp_all
    rw [e, hb.cell j, ← hj]; simp) (fun u hu => by
    simp only [Pc.cells, List.mem_cons, List.not_mem_nil, or_false] at hu
    rcases hu with rfl | rfl <;> rfl) h63 hby hB
  unfold Oper.wp execOp
  simp only [ho, resolve, invoke, builtin, Sem.run_bind, Sem.run_pure, Result.andThen_ok, List.map_toArray, List.map_cons, List.map_nil, hs, hx, hr]
  refine h v' w' ?_ h3 h5
  show w'.ownsRow B 58 2 v' (ts ++ [tb]).length (pcRow (ts ++ [tb]))
  rw [pcRow_snoc, List.length_append]; exact h2
theorem last_any (jb : Nat) (lb : Int) (w : World) (h : w.cell? ⟨jb, 3, none⟩ = some (.int .u8 lb)) : Calls Tryd.prog 22 #[.pointer (some ⟨jb, 0, none⟩)] w fun e w' => e = .returned (.int .u8 lb) ∧ w = w' := by
  go_enter Tryd.func22, Tryd.ntmps22
  go_wp2
  go_ret
  exact ⟨rfl, rfl⟩
/-- the joiner in block j, whose pieces are ts -/
structure Jn (w : World) (j : Nat) (v : Value) (ts : List Pc) (len : Nat) (lb : Int) : Prop where
  blk : Blk w j 38 #[.slice none 0 0, v, .int .u32 len, .int .u8 lb]
  own : OwnP w (j + 1) v ts
theorem ownP_slice {w : World} {B : Nat} {v : Value} {ts : List Pc} (h : OwnP w B v ts) : ∃ ao n cap, v = .slice ao n cap := by
  obtain ⟨h1, h2⟩ := h
  rcases h2 with ⟨rfl, h0⟩ | ⟨g, cap, cur, rfl, _⟩
  · exact ⟨_, _, _, rfl⟩
  · exact ⟨_, _, _, rfl⟩
def IsAdd (j : Nat) (v : Value) (ts : List Pc) (len : Nat) (lb : Int) (w : World) (e : Ending) (w' : World) : Prop := ∃ v', e = .returned (.tuple #[]) ∧ Jn w' j v' ts len lb ∧ Fr w j v w' v'
theorem add_fin {j : Nat} {v v' : Value} {ts' : List Pc} {len len' : Nat} {lb : Int} {w w1 w' : World} (f : Fr w j v w1 v) (k1 : Blk w' j 38 #[.slice none 0 0, v, .int .u32 len, .int .u8 lb]) (ho : OwnP w' (j + 1) v' ts') (hg : w1.grownBy w' v.ownBlock) (hv : v'.ownBlock = v.ownBlock ∨ v'.ownBlock = some w1.heap.size) :
    IsAdd j v ts' len' lb w (.returned (.tuple #[])) ((w'.setCell ⟨j, 1, none⟩ v').setCell ⟨j, 2, none⟩ (.int .u32 len')) := by
  have f2 : Fr w j v w' v' := f.trans (Fr.of_gr ⟨hg, hv.imp id (fun h => ⟨_, h, Nat.le_refl _⟩)⟩)
  have hne : v'.ownBlock = none ∨ v'.ownBlock ≠ some j := by
    rcases hx : v'.ownBlock with _ | x
    · exact .inl rfl
    · exact .inr (fun e => by cases e; have := (World.ownsRow.lt ho _ hx).1; omega)
  have g1 : w'.grownBy (w'.setCell ⟨j, 1, none⟩ v') (some j) := gb_set (gb_refl _ _) 1 none _
  have g2 : (w'.setCell ⟨j, 1, none⟩ v').grownBy ((w'.setCell ⟨j, 1, none⟩ v').setCell ⟨j, 2, none⟩ (.int .u32 len')) (some j) := gb_set (gb_refl _ _) 2 none _
  exact ⟨v', rfl, ⟨(k1.set 1 v').set 2 (.int .u32 len'), World.ownsRow.kept (World.ownsRow.kept ho g1 hne) g2 hne⟩, (f2.trans (Fr.set _ _ _)).trans (Fr.set _ _ _)⟩
set_option maxRecDepth 100000 in
set_option maxHeartbeats 4000000 in
theorem add_any (j : Nat) (v : Value) (ts : List Pc) (len : Nat) (lb : Int) (ao : Option Addr) (n cap : Nat) (zs : List Int) (w : World) (h : Jn w j v ts len lb) (hn : zs.length = n) (hin : In .u8 w ao zs) (h1 : n ≤ 16777216) (h2 : len ≤ 16777216) (h3 : ts.length ≤ 1000) :
    Calls Tryd.prog 10 #[.pointer (some ⟨j, 0, none⟩), .slice ao n cap] w (IsAdd j v (ts ++ [⟨ao, n, cap, len⟩]) (len + n) (if n = 0 then lb else nth zs (n - 1)) w) := by
  rcases (show n = 0 ∨ 0 < n by omega) with h0 | h0
  · have c1 := h.blk.cell 1
    have c2 := h.blk.cell 2
    have fr := h.blk.free
    simp at c1 c2
    subst h0
    go_enter Tryd.func10, Tryd.ntmps10
    go_upto_region 2 with fail
    have HJ := Lib.hid h
    have hjw := h.blk.lt
    have hw1 : ∀ o : Obj, OwnP (w.drew.alloc o) (j + 1) v ts := fun o => World.ownsRow.alloc h.own o
    have HOW := Lib.hid hw1
    clear hw1 h
    have HBB : Hid ((∀ o : Obj, j + 1 ≤ (w.drew.alloc o).heap.size) ∧ ts.length + 1 ≤ maxLen ∧ (ts.length + 1) * 32 ≤ 140737488355328) := Lib.hid ⟨fun o => by simp; omega, by unfold maxLen; omega, by omega⟩
    have HK1 : Hid (∀ (o : Obj) (w' : World), (w.drew.alloc o).grownBy w' v.ownBlock → Blk w' j 38 #[.slice none 0 0, v, .int .u32 len, .int .u8 lb]) := Lib.hid (fun o w' hg' => by
      have k0 : Blk (w.drew.alloc o) j 38 #[.slice none 0 0, v, .int .u32 len, .int .u8 lb] := HJ.out.blk.drew.alloc o
      exact k0.gb hg' (fun e => by have := (World.ownsRow.lt HJ.out.own j e.symm).1; omega))
    go_region_law (refine step_pushP (by rfl) (.tmp 20) (.tmp 27) 35 rfl (j + 1) Tryd.underlying35 32 (.agg #[.slice none 0 0, .int .u32 0]) rfl info58 v ts ⟨ao, 0, cap, len⟩ (by simp [Act.eval]) (HOW.out _) w.heap.size (by simp [Act.eval]) (Blk.new w.drew 58 _) HBB.out.2.1 HBB.out.2.2 (HBB.out.1 _) ?_; intro v' w' ho' hg' hv'; have k1 := HK1.out _ _ hg'; have s1 := k1.cell 1; have s2 := k1.free 1; have s3 := k1.cell 2; have s4 := k1.free 2; simp at s1 s3; have HK1b := Lib.hid k1; clear k1; obtain ⟨a5, n5, c5, hv5⟩ := ownP_slice ho'; subst hv5; have HK := Lib.hid (And.intro ho' (And.intro hg' hv')); clear ho' hg' hv')
    all_goals
      go_wp2_with fail
      go_end0
      obtain ⟨h1, h2, h3⟩ := HK.out
      exact add_fin ((Fr.drewN v 1).trans (Fr.alloc v _)) HK1b.out h1 h2 h3
  · obtain ⟨m, hm⟩ : ∃ m, n - 1 = m := ⟨_, rfl⟩
    have hsub : ((n : Int) - 1) = (m : Int) := by omega
    obtain ⟨b, off, hx, hbl, hc⟩ := hin.at (i := m) (by omega)
    subst hx
    obtain ⟨z, hz⟩ : ∃ z, nth zs m = z := ⟨_, rfl⟩
    rw [hz] at hc
    have HMZ := Lib.hid (And.intro hm hz)
    have hmn : m < n := by omega
    have hjw0 := h.blk.lt
    have H0 := Lib.hid h
    have c3 := h.blk.cell 3
    have fr0 := h.blk.free 3
    simp at c3
    clear hin hm hz hn h
    go_enter Tryd.func10, Tryd.ntmps10
    go_upto_region 2 with fail
    have hg3 : w.grownBy (w.setCell ⟨j, 3, none⟩ (.int .u8 z)) (some j) := gb_set (gb_refl _ _) 3 none _
    have hj1 : Jn (w.setCell ⟨j, 3, none⟩ (.int .u8 z)) j v ts len z := ⟨H0.out.blk.set 3 (.int .u8 z), World.ownsRow.kept H0.out.own hg3 (by
      rcases hx : v.ownBlock with _ | x
      · exact .inl rfl
      · exact .inr (fun e => by cases e; have := (World.ownsRow.lt H0.out.own _ hx).1; omega))⟩
    have hfr : Fr w j v (w.setCell ⟨j, 3, none⟩ (.int .u8 z)) v := Fr.set v 3 _
    obtain ⟨w1, hw1e⟩ : ∃ w1, w.setCell ⟨j, 3, none⟩ (.int .u8 z) = w1 := ⟨_, rfl⟩
    rw [hw1e] at hj1 hfr ⊢
    have HFR := Lib.hid hfr
    have HJ := Lib.hid hj1
    have hjw := hj1.blk.lt
    have c1 := hj1.blk.cell 1
    have c2 := hj1.blk.cell 2
    have fr := hj1.blk.free
    simp at c1 c2
    clear hw1e hj1 hfr hg3 hc c3 fr0
    have hw1 : ∀ o : Obj, OwnP (w1.drew.alloc o) (j + 1) v ts := fun o => World.ownsRow.alloc HJ.out.own o
    have HOW := Lib.hid hw1
    clear hw1
    have HBB : Hid ((∀ o : Obj, j + 1 ≤ (w1.drew.alloc o).heap.size) ∧ ts.length + 1 ≤ maxLen ∧ (ts.length + 1) * 32 ≤ 140737488355328) := Lib.hid ⟨fun o => by simp; omega, by unfold maxLen; omega, by omega⟩
    have HK1 : Hid (∀ (o : Obj) (w' : World), (w1.drew.alloc o).grownBy w' v.ownBlock → Blk w' j 38 #[.slice none 0 0, v, .int .u32 len, .int .u8 z]) := Lib.hid (fun o w' hg' => by
      have k0 : Blk (w1.drew.alloc o) j 38 #[.slice none 0 0, v, .int .u32 len, .int .u8 z] := HJ.out.blk.drew.alloc o
      exact k0.gb hg' (fun e => by have := (World.ownsRow.lt HJ.out.own j e.symm).1; omega))
    go_region_law (refine step_pushP (by rfl) (.tmp 20) (.tmp 27) 35 rfl (j + 1) Tryd.underlying35 32 (.agg #[.slice none 0 0, .int .u32 0]) rfl info58 v ts ⟨some ⟨b, off, none⟩, n, cap, len⟩ (by simp [Act.eval]) (HOW.out _) w1.heap.size (by simp [Act.eval]) (Blk.new w1.drew 58 _) HBB.out.2.1 HBB.out.2.2 (HBB.out.1 _) ?_; intro v' w' ho' hg' hv'; have k1 := HK1.out _ _ hg'; have s1 := k1.cell 1; have s2 := k1.free 1; have s3 := k1.cell 2; have s4 := k1.free 2; simp at s1 s3; have HK1b := Lib.hid k1; clear k1; obtain ⟨a5, n5, c5, hv5⟩ := ownP_slice ho'; subst hv5; have HK := Lib.hid (And.intro ho' (And.intro hg' hv')); clear ho' hg' hv')
    all_goals
      go_wp2_with fail
      go_end0
      obtain ⟨h1, h2, h3⟩ := HK.out
      have hq := add_fin (len' := len + n) ((HFR.out.trans (Fr.drewN v 1)).trans (Fr.alloc v _)) HK1b.out h1 h2 h3
      rw [HMZ.out.1, HMZ.out.2]
      rw [Int.natCast_add] at hq
      exact hq
end Go.Proofs.YtoegmcakolidbaaDoor
