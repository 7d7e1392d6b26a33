/-
  The walk of (*ChunkBuilder).appendMappingWithoutRemapping. No statement of the seat is proved here.
-/
import Derived.Test.YtfbeeekakfllpaaDoorAmb
namespace Go.Proofs.YtfbeeekakfllpaaDoor
open Go.RowKit
set_option linter.unusedVariables false
/-- a ChunkBuilder -/
structure Cb where
  ism : Value
  sm : Value
  qn : Value
  nm : Value
  lot : Value
  pon : ByteArray
  p : St
  lu : Int
  gcol : Int
  pgl : Int
  loc : Int
  fno : Int
  hp : Bool
  asc : Bool
  ls : Bool
  cov : Bool
def Cb.cells (c : Cb) : Array Value := #[c.ism, c.sm, c.qn, c.nm, c.lot, .string c.pon, .int .i64 c.p.gl, .int .i64 c.p.gc, .int .i64 c.p.si, .int .i64 c.p.ol, .int .i64 c.p.oc, .int .i64 c.p.on, .bool c.p.hn, .int .i64 c.lu, .int .i64 c.gcol, .int .i64 c.pgl, .int .i32 c.loc, .int .u32 c.fno, .bool c.hp, .bool c.asc, .bool c.ls, .bool c.cov]
/-- what a call may have turned: block g, the block of v, new blocks -/
structure Fr (w : World) (g : Nat) (v : Value) (w' : World) (v' : Value) : Prop where
  os : w'.os = w.os
  tape : w'.tape = w.tape
  output : w'.output = w.output
  size : w.heap.size ≤ w'.heap.size
  block : ∀ i, i < w.heap.size → i ≠ g → v.ownBlock ≠ some i → w'.heap[i]? = w.heap[i]?
  nw : v'.ownBlock = v.ownBlock ∨ ∃ x, v'.ownBlock = some x ∧ w.heap.size ≤ x
theorem Fr.refl (w : World) (g : Nat) (v : Value) : Fr w g v w v := ⟨rfl, rfl, rfl, Nat.le_refl _, fun _ _ _ _ => rfl, .inl rfl⟩
theorem Fr.trans {a b c : World} {g : Nat} {u v x : Value} (h : Fr a g u b v) (k : Fr b g v c x) : Fr a g u c x := by
  refine ⟨k.os.trans h.os, k.tape.trans h.tape, k.output.trans h.output, Nat.le_trans h.size k.size, fun i hi h1 h2 => ?_, ?_⟩
  · refine (k.block i (Nat.lt_of_lt_of_le hi h.size) h1 ?_).trans (h.block i hi h1 h2)
    rcases h.nw with e | ⟨y, e, hy⟩
    · rw [e]; exact h2
    · rw [e]; intro c; cases c; omega
  · rcases k.nw with e | ⟨y, e, hy⟩
    · rw [e]; exact h.nw
    · exact .inr ⟨y, e, Nat.le_trans h.size hy⟩
theorem Fr.of_gr {w w' : World} {g : Nat} {v v' : Value} (h : Gr w v w' v') : Fr w g v w' v' :=
  ⟨h.1.os, h.1.tape, h.1.output, h.1.size, fun i hi _ h2 => h.1.block i hi (fun e => h2 e.symm), h.2⟩
theorem Fr.set {w : World} {g : Nat} (v : Value) (i : Nat) (x : Value) : Fr w g v (w.setCell ⟨g, i, none⟩ x) v := by
  have hg : w.grownBy (w.setCell ⟨g, i, none⟩ x) (some g) := gb_set (gb_refl _ _) i none _
  exact ⟨hg.os, hg.tape, hg.output, hg.size, fun k hk h1 _ => hg.block k hk (fun e => by cases e; exact h1 rfl), .inl rfl⟩
theorem Fr.alloc {w : World} {g : Nat} (v : Value) (o : Obj) : Fr w g v (w.alloc o) v := Fr.of_gr ⟨World.grownBy_alloc w o _, .inl rfl⟩
theorem Fr.drewN {w : World} {g : Nat} (v : Value) (m : Nat) : Fr w g v (w.drewN m) v := ⟨rfl, rfl, rfl, Nat.le_refl _, fun _ _ _ _ => rfl, .inl rfl⟩
/-- a block that was new at the start is turned -/
theorem Fr.setNew {w0 w : World} {g : Nat} {v v' : Value} (h : Fr w0 g v w v') (b i : Nat) (x : Value) (hb : w0.heap.size ≤ b) : Fr w0 g v (w.setCell ⟨b, i, none⟩ x) v' := by
  have hg : w.grownBy (w.setCell ⟨b, i, none⟩ x) (some b) := gb_set (gb_refl _ _) i none _
  exact ⟨hg.os.trans h.os, hg.tape.trans h.tape, hg.output.trans h.output, Nat.le_trans h.size hg.size, fun k hk h1 h2 => (hg.block k (Nat.lt_of_lt_of_le hk h.size) (fun e => by cases e; omega)).trans (h.block k hk h1 h2), h.nw⟩
/-- a slice of the call's own from w0 on: the new value's block is told -/
theorem Fr.own {w w' : World} {g B : Nat} {v v' u : Value} {k : IntKind} {e : TypeId} {zs : List Int} (h : Fr w g v w' v') (ho : Own k e w B u zs) (h1 : ∀ x, u.ownBlock = some x → x ≠ g ∧ v.ownBlock ≠ some x) : Own k e w' B u zs := by
  obtain ⟨k1, k2⟩ := ho
  refine ⟨k1, k2.imp id ?_⟩
  rintro ⟨q, cap, cur, rfl, hB, hh, hr⟩
  exact ⟨q, cap, cur, rfl, hB, (h.block q (blk_lt hh) (h1 q rfl).1 (h1 q rfl).2).trans hh, hr⟩
theorem Fr.blk {w w' : World} {g : Nat} {v v' : Value} {b : Nat} {t : TypeId} {cs : Array Value} (h : Fr w g v w' v') (hb : Blk w b t cs) (h1 : b ≠ g) (h2 : v.ownBlock ≠ some b) : Blk w' b t cs := (h.block b hb.lt h1 h2).trans hb
/-- a builder in block g whose text is xs -/
structure Cbd (w : World) (g : Nat) (c : Cb) (xs : List Int) : Prop where
  blk : Blk w g 61 c.cells
  own : Own .u8 5 w (g + 1) c.sm xs
  tab : Tab w g
theorem Cbd.drewN {w : World} {g : Nat} {c : Cb} {xs : List Int} (h : Cbd w g c xs) (m : Nat) : Cbd (w.drewN m) g c xs := ⟨h.blk, h.own, h.tab⟩
theorem Cbd.apart {w : World} {g : Nat} {c : Cb} {xs : List Int} (h : Cbd w g c xs) : c.sm.ownBlock ≠ some g := fun e => by have := (h.own.lt g e).1; omega
/-- with a box b of the call's own -/
structure Ab (w0 : World) (g : Nat) (v0 : Value) (c : Cb) (xs : List Int) (b : Nat) (s : St) (wr : World) : Prop where
  cb : Cbd wr g c xs
  box : Blk wr b 31 s.cells
  fr : Fr w0 g v0 wr c.sm
  gb : g < b
  b0 : w0.heap.size = b
  hb : c.sm.ownBlock ≠ some b
theorem Ab.start {w : World} {g : Nat} {c : Cb} {xs : List Int} (h : Cbd w g c xs) (s : St) : Ab w g c.sm c xs w.heap.size s (w.alloc (.cells s.cells 31)) :=
  ⟨⟨h.blk.alloc _, h.own.alloc _, h.tab.below ((Below.refl _ _).alloc (Nat.le_of_lt h.blk.lt) _)⟩, Blk.new w 31 s.cells, Fr.alloc _ _, h.blk.lt, rfl, fun e => by have := (h.own.lt _ e).2; omega⟩
theorem Ab.drewN {w0 : World} {g : Nat} {v0 : Value} {c : Cb} {xs : List Int} {b : Nat} {s : St} {wr : World} (h : Ab w0 g v0 c xs b s wr) (m : Nat) : Ab w0 g v0 c xs b s (wr.drewN m) :=
  ⟨h.cb.drewN m, h.box, h.fr.trans (Fr.drewN _ m), h.gb, h.b0, h.hb⟩
theorem Ab.alloc {w0 : World} {g : Nat} {v0 : Value} {c : Cb} {xs : List Int} {b : Nat} {s : St} {wr : World} (h : Ab w0 g v0 c xs b s wr) (o : Obj) : Ab w0 g v0 c xs b s (wr.alloc o) :=
  ⟨⟨h.cb.blk.alloc _, h.cb.own.alloc _, h.cb.tab.below ((Below.refl _ _).alloc (Nat.le_of_lt h.cb.blk.lt) _)⟩, h.box.alloc _, h.fr.trans (Fr.alloc _ _), h.gb, h.b0, h.hb⟩
/-- behind the call and the two stores -/
def A5 (w0 : World) (g : Nat) (v0 : Value) (c : Cb) (ys : List Int) (b : Nat) (s : St) (n5 : Nat) (x : Int) (wr : World) : Prop := ∃ v', Ab w0 g v0 { c with sm := v' } ys b s wr ∧ Blk wr n5 26 #[.int .u32 x]
theorem Ab.five {w0 : World} {g : Nat} {v0 : Value} {c : Cb} {xs ys : List Int} {b : Nat} {s : St} {w1 w2 : World} {n5 : Nat} {v' : Value} (h : Ab w0 g v0 c xs b s w1) (hn : Blk w1 n5 26 #[.int .u32 0]) (hb : b < n5) (hns : c.sm.ownBlock ≠ some n5)
    (ho : Own .u8 5 w2 (g + 1) v' ys) (hg : Gr w1 c.sm w2 v') (xv : Int) : A5 w0 g v0 c ys b s n5 xv ((w2.setCell ⟨g, 1, none⟩ v').setCell ⟨n5, 0, none⟩ (.int .u32 xv)) := by
  have hgl := h.gb
  have hbl := h.box.lt
  have hnl := hn.lt
  have hap := h.cb.apart
  have f1 : Fr w1 g c.sm w2 v' := Fr.of_gr hg
  have f2 : Fr w1 g c.sm (w2.setCell ⟨g, 1, none⟩ v') v' := f1.trans (Fr.set _ _ _)
  have k1 : Blk w2 g 61 c.cells := h.cb.blk.gb hg.1 (fun e => hap e.symm)
  have k2 : Blk (w2.setCell ⟨g, 1, none⟩ v') g 61 { c with sm := v' }.cells := k1.set 1 v'
  have k3 : Blk (w2.setCell ⟨g, 1, none⟩ v') n5 26 #[.int .u32 0] := f2.blk hn (by omega) hns
  have k4 : Blk (w2.setCell ⟨g, 1, none⟩ v') b 31 s.cells := f2.blk h.box (by omega) h.hb
  have hv' : ∀ x, v'.ownBlock = some x → x ≠ g ∧ x ≠ b ∧ x ≠ n5 := by
    intro x hx
    have := (ho.lt x hx).1
    rcases hg.2 with e | ⟨y, e, hy⟩
    · rw [e] at hx
      exact ⟨by omega, fun c => by subst c; exact h.hb hx, fun c => by subst c; exact hns hx⟩
    · rw [e] at hx; cases hx; exact ⟨by omega, by omega, by omega⟩
  have gs : (w2.setCell ⟨g, 1, none⟩ v').grownBy ((w2.setCell ⟨g, 1, none⟩ v').setCell ⟨n5, 0, none⟩ (.int .u32 xv)) (some n5) := gb_set (gb_refl _ _) 0 none _
  have gt : w2.grownBy (w2.setCell ⟨g, 1, none⟩ v') (some g) := gb_set (gb_refl _ _) 1 none _
  have hsz := hg.1.size
  refine ⟨v', ⟨⟨k2.gb gs (fun e => by cases e; omega), (ho.gb gt ?_).gb gs ?_, ?_⟩, k4.gb gs (fun e => by cases e; omega), (h.fr.trans f2).setNew n5 0 _ (by rw [h.b0]; omega), h.gb, h.b0, fun e => (hv' b e).2.1 rfl⟩, by simpa using k3.set 0 (.int .u32 xv)⟩
  · rcases hx : v'.ownBlock with _ | x
    · exact .inl rfl
    · exact .inr (fun e => by cases e; exact (hv' _ hx).1 rfl)
  · rcases hx : v'.ownBlock with _ | x
    · exact .inl rfl
    · exact .inr (fun e => by cases e; exact (hv' _ hx).2.2 rfl)
  · have b1 : Below g w1 w2 := (Below.refl _ _).grown hg.1 (by omega) (fun x hx => by have := (h.cb.own.lt x hx).1; omega)
    exact ((h.cb.tab.below b1).below (below_gb (Below.refl _ _) gt (by omega) (Nat.le_refl _))).below (below_gb (Below.refl _ _) gs (by have := gt.size; omega) (by omega))
theorem Ab.five_pre {w0 : World} {g : Nat} {v0 : Value} {c : Cb} {xs : List Int} {b : Nat} {s : St} {w1 w2 : World} {n5 : Nat} {v' : Value} (h : Ab w0 g v0 c xs b s w1) (hn : Blk w1 n5 26 #[.int .u32 0]) (hns : c.sm.ownBlock ≠ some n5) (hg : Gr w1 c.sm w2 v') :
    (∃ u, w2.cell? ⟨g, 1, none⟩ = some u) ∧ w2.frozen? ⟨g, 1, none⟩ = false ∧ w2.cell? ⟨n5, 0, none⟩ = some (.int .u32 0) ∧ w2.frozen? ⟨n5, 0, none⟩ = false := by
  have k1 : Blk w2 g 61 c.cells := h.cb.blk.gb hg.1 (fun e => h.cb.apart e.symm)
  have k2 : Blk w2 n5 26 #[.int .u32 0] := hn.gb hg.1 (fun e => hns e.symm)
  exact ⟨⟨c.sm, k1.cell 1⟩, k1.free 1, k2.cell 0, k2.free 0⟩
/-- a block of cells and the text beside it, while cells are turned one by one -/
structure Rw (w0 : World) (v0 : Value) (w : World) (g : Nat) (cs : Array Value) (v : Value) (xs : List Int) : Prop where
  blk : Blk w g 61 cs
  own : Own .u8 5 w (g + 1) v xs
  tab : Tab w g
  fr : Fr w0 g v0 w v
theorem Rw.put {w0 : World} {v0 : Value} {w : World} {g : Nat} {cs : Array Value} {v : Value} {xs : List Int} (h : Rw w0 v0 w g cs v xs) (k : Nat) (x : Value) : Rw w0 v0 (w.setCell ⟨g, k, none⟩ x) g (cs.setIfInBounds k x) v xs := by
  have hg : w.grownBy (w.setCell ⟨g, k, none⟩ x) (some g) := gb_set (gb_refl _ _) k none _
  have hl := h.blk.lt
  refine ⟨h.blk.set k x, h.own.gb hg ?_, h.tab.below (below_gb (Below.refl _ _) hg (by omega) (Nat.le_refl _)), h.fr.trans (Fr.set _ _ _)⟩
  rcases hx : v.ownBlock with _ | y
  · exact .inl rfl
  · exact .inr (fun e => by cases e; have := (h.own.lt g hx).1; omega)
theorem Rw.alloc {w0 : World} {v0 : Value} {w : World} {g : Nat} {cs : Array Value} {v : Value} {xs : List Int} (h : Rw w0 v0 w g cs v xs) (o : Obj) : Rw w0 v0 (w.alloc o) g cs v xs :=
  ⟨h.blk.alloc o, h.own.alloc o, h.tab.below ((Below.refl _ _).alloc (Nat.le_of_lt h.blk.lt) o), h.fr.trans (Fr.alloc _ _)⟩
theorem Rw.cbd {w0 : World} {v0 : Value} {w : World} {g : Nat} {cs : Array Value} {v : Value} {xs : List Int} (h : Rw w0 v0 w g cs v xs) (c : Cb) (hc : cs = c.cells) (hv : c.sm = v) : Cbd w g c xs ∧ Fr w0 g v0 w c.sm := by
  subst hc hv
  exact ⟨⟨h.blk, h.own, h.tab⟩, h.fr⟩
theorem Rw.gbn {w0 : World} {v0 : Value} {w w' : World} {g : Nat} {cs : Array Value} {v : Value} {xs : List Int} (h : Rw w0 v0 w g cs v xs) (hg : w.grownBy w' none) : Rw w0 v0 w' g cs v xs := by
  have hl := h.blk.lt
  exact ⟨h.blk.gb hg (by simp), h.own.gb hg (by cases v.ownBlock <;> simp), h.tab.below ((Below.refl _ _).grown hg (by omega) (fun k h => by cases h)), h.fr.trans (Fr.of_gr ⟨gb_none hg, .inl rfl⟩)⟩
theorem chain17 (c : Cb) (s : St) : (((((((c.cells.setIfInBounds 6 (.int .i64 s.gl)).setIfInBounds 7 (.int .i64 s.gc)).setIfInBounds 8 (.int .i64 s.si)).setIfInBounds 9 (.int .i64 s.ol)).setIfInBounds 10 (.int .i64 s.oc)).setIfInBounds 11 (.int .i64 s.on)).setIfInBounds 12 (.bool s.hn))[17]? = some (.int .u32 c.fno) := by kernel_rfl
theorem chain18 (c : Cb) (s : St) : (((((((c.cells.setIfInBounds 6 (.int .i64 s.gl)).setIfInBounds 7 (.int .i64 s.gc)).setIfInBounds 8 (.int .i64 s.si)).setIfInBounds 9 (.int .i64 s.ol)).setIfInBounds 10 (.int .i64 s.oc)).setIfInBounds 11 (.int .i64 s.on)).setIfInBounds 12 (.bool s.hn))[18]? = some (.bool c.hp) := by kernel_rfl
theorem chain18b (c : Cb) (s : St) (x : Int) : ((((((((c.cells.setIfInBounds 6 (.int .i64 s.gl)).setIfInBounds 7 (.int .i64 s.gc)).setIfInBounds 8 (.int .i64 s.si)).setIfInBounds 9 (.int .i64 s.ol)).setIfInBounds 10 (.int .i64 s.oc)).setIfInBounds 11 (.int .i64 s.on)).setIfInBounds 12 (.bool s.hn)).setIfInBounds 17 (.int .u32 x))[18]? = some (.bool c.hp) := by kernel_rfl
theorem cells_app0 (c : Cb) (s : St) : ((((((((c.cells.setIfInBounds 6 (.int .i64 s.gl)).setIfInBounds 7 (.int .i64 s.gc)).setIfInBounds 8 (.int .i64 s.si)).setIfInBounds 9 (.int .i64 s.ol)).setIfInBounds 10 (.int .i64 s.oc)).setIfInBounds 11 (.int .i64 s.on)).setIfInBounds 12 (.bool s.hn)).setIfInBounds 11 (.int .i64 c.p.on)).setIfInBounds 18 (.bool true) = Cb.cells { c with p := { s with on := c.p.on }, hp := true } := by kernel_rfl
theorem cells_app1 (c : Cb) (s : St) : (((((((c.cells.setIfInBounds 6 (.int .i64 s.gl)).setIfInBounds 7 (.int .i64 s.gc)).setIfInBounds 8 (.int .i64 s.si)).setIfInBounds 9 (.int .i64 s.ol)).setIfInBounds 10 (.int .i64 s.oc)).setIfInBounds 11 (.int .i64 s.on)).setIfInBounds 12 (.bool s.hn)).setIfInBounds 18 (.bool true) = Cb.cells { c with p := s, hp := true } := by kernel_rfl
theorem cells_app2 (c : Cb) (s : St) (x : Int) : ((((((((c.cells.setIfInBounds 6 (.int .i64 s.gl)).setIfInBounds 7 (.int .i64 s.gc)).setIfInBounds 8 (.int .i64 s.si)).setIfInBounds 9 (.int .i64 s.ol)).setIfInBounds 10 (.int .i64 s.oc)).setIfInBounds 11 (.int .i64 s.on)).setIfInBounds 12 (.bool s.hn)).setIfInBounds 17 (.int .u32 x)).setIfInBounds 18 (.bool true) = Cb.cells { c with p := s, fno := x, hp := true } := by kernel_rfl
theorem own_slice {k : IntKind} {e : TypeId} {w : World} {B : Nat} {v : Value} {zs : List Int} (h : Own k e w B v zs) : ∃ ao n cap, v = .slice ao n cap := by
  obtain ⟨ao, cap, h, _⟩ := h.form
  exact ⟨ao, _, cap, h⟩
theorem Tab.up {w : World} {B B' : Nat} (h : Tab w B) (hB : B ≤ B') : Tab w B' := by
  obtain ⟨h0, R, o, c, hR, h1, h2⟩ := h
  exact ⟨by omega, R, o, c, by omega, h1, h2⟩
/-- the builder behind a mapping s written behind xs -/
def Cb.after (c : Cb) (v' : Value) (xs : List Int) (s : St) : Cb :=
  { c with sm := v', p := { s with on := if s.hn then s.on else c.p.on }, hp := true, fno := if s.hn = true ∧ c.fno = 0 then nof true (xs ++ (cm (lastOf xs) ++ encs [s.gc - c.p.gc, s.si - c.p.si, s.ol - c.p.ol, s.oc - c.p.oc])).length else c.fno }
theorem after0 (c : Cb) (v' : Value) (xs : List Int) (s : St) (h : s.hn = false) : c.after v' xs s = { c with sm := v', p := { s with on := c.p.on }, hp := true } := by
  unfold Cb.after
  rw [h, if_neg (by simp), if_neg (by simp)]
theorem after1 (c : Cb) (v' : Value) (xs : List Int) (s : St) (h : s.hn = true) (hf : c.fno ≠ 0) : c.after v' xs s = { c with sm := v', p := s, hp := true } := by
  unfold Cb.after
  rw [h, if_pos rfl, if_neg (fun k => hf k.2)]
  cases s; simp_all
theorem after2 (c : Cb) (v' : Value) (xs : List Int) (s : St) (h : s.hn = true) (hf : c.fno = 0) : c.after v' xs s = { c with sm := v', p := s, hp := true, fno := nof true (xs ++ (cm (lastOf xs) ++ encs [s.gc - c.p.gc, s.si - c.p.si, s.ol - c.p.ol, s.oc - c.p.oc])).length } := by
  unfold Cb.after
  rw [h, if_pos rfl, if_pos ⟨rfl, hf⟩]
  cases s; simp_all
def IsApp (g : Nat) (c : Cb) (xs : List Int) (s : St) (w : World) (e : Ending) (w' : World) : Prop :=
  ∃ v', e = .returned (.tuple #[]) ∧ Cbd w' g (c.after v' xs s) (xs ++ (cm (lastOf xs) ++ encs (St.ds c.p s))) ∧ Fr w g c.sm w' v'
def LbP (w0 : World) (g : Nat) (v0 : Value) (c : Cb) (xs : List Int) (b : Nat) (s : St) (x : Value) (wc : World) : Prop := x = .int .u8 (lastOf xs) ∧ Ab w0 g v0 c xs b s wc
set_option maxRecDepth 100000 in
set_option maxHeartbeats 4000000 in
theorem amw_any (g : Nat) (c : Cb) (xs : List Int) (sgl sgc ssi sol soc son : Int) (hh : Bool) (w : World) (h : Cbd w g c xs) (hlb : lastOf xs = 0 ∨ lastOf xs = 59 ∨ B64 (lastOf xs))
    (h1 : Bnd (sgc - c.p.gc)) (h2 : Bnd (ssi - c.p.si)) (h3 : Bnd (sol - c.p.ol)) (h4 : Bnd (soc - c.p.oc)) (h5 : Bnd (son - c.p.on)) (hl : xs.length ≤ 1073741000) :
    Calls Tryd.prog 28 #[.pointer (some ⟨g, 0, none⟩), .agg (⟨sgl, sgc, ssi, sol, soc, son, hh⟩ : St).cells] w (IsApp g c xs (⟨sgl, sgc, ssi, sol, soc, son, hh⟩ : St) w) := by
  have HA := Lib.hid (Ab.start h (⟨sgl, sgc, ssi, sol, soc, son, hh⟩ : St))
  have HD := Lib.hid (And.intro h1 (And.intro h2 (And.intro h3 (And.intro h4 h5))))
  obtain ⟨ao, cap, hsm, hin, _⟩ := h.own.form
  obtain ⟨n, hn⟩ : ∃ n, xs.length = n := ⟨_, rfl⟩
  rw [hn] at hsm hl
  have HS := Lib.hid (And.intro hsm (And.intro hn hin))
  clear h h1 h2 h3 h4 h5 hsm hn hin
  obtain ⟨Q, hQ⟩ : ∃ Q, IsApp g c xs (⟨sgl, sgc, ssi, sol, soc, son, hh⟩ : St) w = Q := ⟨_, rfl⟩
  rw [hQ]
  have HQ := Lib.hid hQ
  clear hQ
  obtain ⟨b, hb⟩ : ∃ b, w.heap.size = b := ⟨_, rfl⟩
  obtain ⟨W, hW⟩ : ∃ W, w.alloc (.cells (⟨sgl, sgc, ssi, sol, soc, son, hh⟩ : St).cells 31) = W := ⟨_, rfl⟩
  have HW := Lib.hid (And.intro hb hW)
  rw [hW, hb] at HA
  have HLB := Lib.hid hlb
  clear hlb hb hW
  have c1 := HA.out.cb.blk.cell 1
  simp only [Cb.cells] at c1
  rw [HS.out.1] at c1
  unfold St.cells
  go_enter Tryd.func28, Tryd.ntmps28
  go_upto_region 2 with fail
  have hWW : w.alloc (.cells #[.int .i64 sgl, .int .i64 sgc, .int .i64 ssi, .int .i64 sol, .int .i64 soc, .int .i64 son, .bool hh] 31) = W := HW.out.2
  rw [hWW, HW.out.1]
  clear hWW
  go_upto_if 12 with fail
  go_cut [4] (fun x wc => LbP w g c.sm c xs b (⟨sgl, sgc, ssi, sol, soc, son, hh⟩ : St) x wc)
  case first =>
    rcases (show n = 0 ∨ 0 < n by omega) with h0 | h0
    · have HL : Hid (lastOf xs = 0) := Lib.hid (by rw [lastOf, if_pos (by rw [HS.out.2.1]; exact h0)])
      subst h0
      go_wp2_with fail
      go_meet
      exact ⟨by rw [HL.out], HA.out⟩
    · obtain ⟨m, hm⟩ : ∃ m, n - 1 = m := ⟨_, rfl⟩
      have hq1 : IntKind.i64.wrap ((n : Int) - 1) = (m : Int) := by rw [IntWalk.i64_in _ (by omega)]; omega
      have hmn : m < n := by omega
      have hne : ((n : Int) != 0) = true := bne_iff_ne.2 (by omega)
      have hne2 : ((n : Int) == 0) = false := beq_eq_false_iff_ne.2 (by omega)
      have HL : Hid (lastOf xs = nth xs m) := Lib.hid (by rw [lastOf, if_neg (by rw [HS.out.2.1]; omega), HS.out.2.1, hm])
      have hcm : ∃ q, ao = some ⟨q, 0, none⟩ ∧ W.cell? ⟨q, m, none⟩ = some (.int .u8 (nth xs m)) := by
        obtain ⟨ao', cap', e, hin, _, hx⟩ := HA.out.cb.own.form
        rw [HS.out.1] at e
        cases e
        rcases hx with ⟨_, hx, _⟩ | ⟨q, hx, _⟩
        · rw [← HS.out.2.1, hx] at h0; simp at h0
        · subst hx
          obtain ⟨b', off, e, _, hc⟩ := hin.at (i := m) (by rw [HS.out.2.1]; exact hmn)
          cases e
          exact ⟨q, rfl, by rwa [Nat.zero_add] at hc⟩
      obtain ⟨q, rfl, hcq⟩ := hcm
      have HM := Lib.hid hm
      clear hm
      go_upto_region 3 with fail
      go_quiet (fail)
      clear hq1
      go_wp2_with fail
      go_meet
      exact ⟨by rw [HL.out], HA.out.drewN _⟩
  case rest =>
    obtain ⟨rfl, hA⟩ := hcut
    have HA1 := Lib.hid hA
    clear hA HA c1
    go_upto_region 5 with fail
    have HA2 := Lib.hid (HA1.out.alloc (.cells #[.int .u32 0] 26))
    have hnb := Blk.new wc 26 #[.int .u32 0]
    obtain ⟨W5, hW5⟩ : ∃ W5, wc.alloc (.cells #[.int .u32 0] 26) = W5 := ⟨_, rfl⟩
    have hn5s : ∀ x, c.sm.ownBlock = some x → x < wc.heap.size := fun x hx => (HA1.out.cb.own.lt x hx).2
    have hb5 : b < wc.heap.size := HA1.out.box.lt
    obtain ⟨n5, hn5⟩ : ∃ n5, wc.heap.size = n5 := ⟨_, rfl⟩
    rw [hW5] at HA2 hnb ⊢
    rw [hn5] at hnb hn5s hb5 ⊢
    have HNB : Hid (Blk W5 n5 26 #[.int .u32 0] ∧ c.sm.ownBlock ≠ some n5) := Lib.hid ⟨hnb, fun e => by have := hn5s _ e; omega⟩
    clear hW5 hn5 hnb hn5s
    have hgb : g < b := HA2.out.gb
    have hgn : ¬ g = n5 := by omega
    have hgn' : ¬ n5 = g := by omega
    obtain ⟨x5, hx5⟩ : ∃ x, nof hh (xs ++ (cm (lastOf xs) ++ encs [sgc - c.p.gc, ssi - c.p.si, sol - c.p.ol, soc - c.p.oc])).length = x := ⟨_, rfl⟩
    have HX5 := Lib.hid hx5
    clear hx5
    obtain ⟨ys, hys⟩ : ∃ ys, (xs ++ (cm (lastOf xs) ++ encs (St.ds c.p (⟨sgl, sgc, ssi, sol, soc, son, hh⟩ : St)))) = ys := ⟨_, rfl⟩
    have HYS := Lib.hid hys
    clear hys
    have HC : Hid (∀ w1 : World, Ab w g c.sm c xs b (⟨sgl, sgc, ssi, sol, soc, son, hh⟩ : St) w1 → Calls Tryd.prog 37 #[.slice ao n cap, .int .u8 (lastOf xs), .agg #[.int .i64 c.p.gl, .int .i64 c.p.gc, .int .i64 c.p.si, .int .i64 c.p.ol, .int .i64 c.p.oc, .int .i64 c.p.on, .bool c.p.hn], .agg #[.int .i64 sgl, .int .i64 sgc, .int .i64 ssi, .int .i64 sol, .int .i64 soc, .int .i64 son, .bool hh], .bool false] w1 fun e w' => ∃ v', e = .returned (.tuple #[v', .agg #[.int .u32 x5]]) ∧ Own .u8 5 w' (g + 1) v' ys ∧ Gr w1 c.sm w' v' ∧ Tab w' (g + 1)) := Lib.hid (by
      intro w1 h
      have := amb_any (g + 1) c.sm xs (lastOf xs) c.p (⟨sgl, sgc, ssi, sol, soc, son, hh⟩ : St) w1 (h.cb.tab.up (Nat.le_succ _)) h.cb.blk.lt h.cb.own HLB.out HD.out.1 HD.out.2.1 HD.out.2.2.1 HD.out.2.2.2.1 HD.out.2.2.2.2 (by rw [HS.out.2.1]; exact hl)
      rw [HS.out.1] at this
      refine Calls.mono this ?_
      rintro e w' ⟨v', h1, h2, h3, h4⟩
      rw [← HS.out.1] at h3
      exact ⟨v', by rw [← HX5.out]; exact h1, by rw [← HYS.out]; exact h2, h3, h4⟩)
    go_cut [] (fun wx => A5 w g c.sm c ys b (⟨sgl, sgc, ssi, sol, soc, son, hh⟩ : St) n5 x5 wx)
    case first =>
      have c1 := HA2.out.cb.blk.cell 1
      have c6 := HA2.out.cb.blk.cell 6
      have c7 := HA2.out.cb.blk.cell 7
      have c8 := HA2.out.cb.blk.cell 8
      have c9 := HA2.out.cb.blk.cell 9
      have c10 := HA2.out.cb.blk.cell 10
      have c11 := HA2.out.cb.blk.cell 11
      have c12 := HA2.out.cb.blk.cell 12
      have d0 := HA2.out.box.cell 0
      have d1 := HA2.out.box.cell 1
      have d2 := HA2.out.box.cell 2
      have d3 := HA2.out.box.cell 3
      have d4 := HA2.out.box.cell 4
      have d5 := HA2.out.box.cell 5
      have d6 := HA2.out.box.cell 6
      simp only [Cb.cells, St.cells] at c1 c6 c7 c8 c9 c10 c11 c12 d0 d1 d2 d3 d4 d5 d6
      rw [HS.out.1] at c1
      go_region_with (go_at_call 37; (refine (HC.out _ (HA2.out.drewN 1)).mono ?_; rintro e w2 ⟨v', rfl, ho, hg, ht⟩; obtain ⟨ao2, n2, cap2, hv2⟩ := own_slice ho; subst hv2; obtain ⟨⟨u, s1⟩, s2, s3, s4⟩ := (HA2.out.drewN 1).five_pre HNB.out.1 HNB.out.2 hg; have H5 := Lib.hid ((HA2.out.drewN 1).five HNB.out.1 hb5 HNB.out.2 ho hg x5); clear ho hg ht))
      all_goals
        go_wp2_with fail
        go_meet
        exact H5.out
    case rest =>
      obtain ⟨wq, rfl⟩ : ∃ wq : World, wq = wc := ⟨_, rfl⟩
      obtain ⟨v', hA5, hn5⟩ := hcut
      have HX := Lib.hid hA5
      have e6 := hA5.cb.blk.cell 6
      have e7 := hA5.cb.blk.cell 7
      have e8 := hA5.cb.blk.cell 8
      have e9 := hA5.cb.blk.cell 9
      have e10 := hA5.cb.blk.cell 10
      have e11 := hA5.cb.blk.cell 11
      have e12 := hA5.cb.blk.cell 12
      have e17 := hA5.cb.blk.cell 17
      have e18 := hA5.cb.blk.cell 18
      have fr := hA5.cb.blk.free
      have d0 := hA5.box.cell 0
      have d1 := hA5.box.cell 1
      have d2 := hA5.box.cell 2
      have d3 := hA5.box.cell 3
      have d4 := hA5.box.cell 4
      have d5 := hA5.box.cell 5
      have d6 := hA5.box.cell 6
      simp only [Cb.cells, St.cells] at e6 e7 e8 e9 e10 e11 e12 e17 e18 d0 d1 d2 d3 d4 d5 d6
      have hbg : ¬ b = g := by omega
      have HN5 := Lib.hid hn5
      clear hA5 hn5
      cases hh with
      | false =>
        go_wp2_with fail
        go_end0
        rw [← HQ.out]
        obtain ⟨k1, k2⟩ := Rw.cbd (((((((((Rw.put (w0 := w) (v0 := c.sm) ⟨HX.out.cb.blk, HX.out.cb.own, HX.out.cb.tab, HX.out.fr⟩ 6 (.int .i64 sgl)).put 7 (.int .i64 sgc)).put 8 (.int .i64 ssi)).put 9 (.int .i64 sol)).put 10 (.int .i64 soc)).put 11 (.int .i64 son)).put 12 (.bool false)).put 11 (.int .i64 c.p.on)).put 18 (.bool true)) { c with sm := v', p := { (⟨sgl, sgc, ssi, sol, soc, son, false⟩ : St) with on := c.p.on }, hp := true } (cells_app0 { c with sm := v' } (⟨sgl, sgc, ssi, sol, soc, son, false⟩ : St)) rfl
        rw [← after0 c v' xs (⟨sgl, sgc, ssi, sol, soc, son, false⟩ : St) rfl, ← HYS.out] at k1
        exact ⟨v', rfl, k1, k2⟩
      | true =>
        have hfg : g < n5 := by have := HA2.out.gb; have := HNB.out; omega
        go_upto_region 10 with fail
        have H6 : Hid (Rw w c.sm (((((((wq.setCell ⟨g, 6, none⟩ (.int .i64 sgl)).setCell ⟨g, 7, none⟩ (.int .i64 sgc)).setCell ⟨g, 8, none⟩ (.int .i64 ssi)).setCell ⟨g, 9, none⟩ (.int .i64 sol)).setCell ⟨g, 10, none⟩ (.int .i64 soc)).setCell ⟨g, 11, none⟩ (.int .i64 son)).setCell ⟨g, 12, none⟩ (.bool true)) g ((((((((Cb.cells { c with sm := v' }).setIfInBounds 6 (.int .i64 sgl)).setIfInBounds 7 (.int .i64 sgc)).setIfInBounds 8 (.int .i64 ssi)).setIfInBounds 9 (.int .i64 sol)).setIfInBounds 10 (.int .i64 soc)).setIfInBounds 11 (.int .i64 son)).setIfInBounds 12 (.bool true)) v' ys ∧ Blk (((((((wq.setCell ⟨g, 6, none⟩ (.int .i64 sgl)).setCell ⟨g, 7, none⟩ (.int .i64 sgc)).setCell ⟨g, 8, none⟩ (.int .i64 ssi)).setCell ⟨g, 9, none⟩ (.int .i64 sol)).setCell ⟨g, 10, none⟩ (.int .i64 soc)).setCell ⟨g, 11, none⟩ (.int .i64 son)).setCell ⟨g, 12, none⟩ (.bool true)) n5 26 #[.int .u32 x5]) := Lib.hid ⟨((((((Rw.put (w0 := w) (v0 := c.sm) ⟨HX.out.cb.blk, HX.out.cb.own, HX.out.cb.tab, HX.out.fr⟩ 6 (.int .i64 sgl)).put 7 (.int .i64 sgc)).put 8 (.int .i64 ssi)).put 9 (.int .i64 sol)).put 10 (.int .i64 soc)).put 11 (.int .i64 son)).put 12 (.bool true), (((((((HN5.out.gb (gb_set (gb_refl _ _) _ _ _) (fun e => by cases e; omega)).gb (gb_set (gb_refl _ _) _ _ _) (fun e => by cases e; omega)).gb (gb_set (gb_refl _ _) _ _ _) (fun e => by cases e; omega)).gb (gb_set (gb_refl _ _) _ _ _) (fun e => by cases e; omega)).gb (gb_set (gb_refl _ _) _ _ _) (fun e => by cases e; omega)).gb (gb_set (gb_refl _ _) _ _ _) (fun e => by cases e; omega)).gb (gb_set (gb_refl _ _) _ _ _) (fun e => by cases e; omega))⟩
        clear e6 e7 e8 e9 e10 e11 e12 e17 e18 fr d0 d1 d2 d3 d4 d5 d6
        generalize (((((((wq.setCell ⟨g, 6, none⟩ (.int .i64 sgl)).setCell ⟨g, 7, none⟩ (.int .i64 sgc)).setCell ⟨g, 8, none⟩ (.int .i64 ssi)).setCell ⟨g, 9, none⟩ (.int .i64 sol)).setCell ⟨g, 10, none⟩ (.int .i64 soc)).setCell ⟨g, 11, none⟩ (.int .i64 son)).setCell ⟨g, 12, none⟩ (.bool true)) = w6 at H6 ⊢
        have e17 : w6.cell? ⟨g, 17, none⟩ = some (.int .u32 c.fno) := (H6.out.1.blk.cell 17).trans (chain17 { c with sm := v' } (⟨sgl, sgc, ssi, sol, soc, son, true⟩ : St))
        have lg := H6.out.1.blk.lt
        obtain ⟨f, hf⟩ : ∃ f, c.fno = f := ⟨_, rfl⟩
        rw [hf] at e17
        have HFF := Lib.hid hf
        clear hf
        have HV := Lib.hid (fun w => valid_any f w)
        by_cases hf0 : f = 0
        · subst hf0
          go_upto_region 11 with (go_at_call 22; refine (HV.out _).mono ?_; rintro e w7 ⟨rfl, hg7⟩; have H7 := Lib.hid (And.intro (H6.out.1.gbn hg7) (H6.out.2.gb hg7 (by simp))); clear hg7)
          clear e17 lg
          have m0 : w7.cell? ⟨n5, 0, none⟩ = some (.int .u32 x5) := H7.out.2.cell 0
          have ln := H7.out.2.lt
          have f17 := H7.out.1.blk.free 17
          have k17 : w7.cell? ⟨g, 17, none⟩ = some (.int .u32 c.fno) := (H7.out.1.blk.cell 17).trans (chain17 { c with sm := v' } (⟨sgl, sgc, ssi, sol, soc, son, true⟩ : St))
          have lg := H7.out.1.blk.lt
          have h8 := H7.out.1.put 17 (.int .u32 x5)
          have f18 := h8.blk.free 18
          have k18 : (w7.setCell ⟨g, 17, none⟩ (.int .u32 x5)).cell? ⟨g, 18, none⟩ = some (.bool c.hp) := (h8.blk.cell 18).trans (chain18b { c with sm := v' } (⟨sgl, sgc, ssi, sol, soc, son, true⟩ : St) x5)
          have H8 := Lib.hid (h8.put 18 (.bool true))
          clear h8
          go_wp2_with fail
          go_end0
          rw [← HQ.out]
          obtain ⟨k1, k2⟩ := Rw.cbd H8.out { c with sm := v', p := (⟨sgl, sgc, ssi, sol, soc, son, true⟩ : St), fno := x5, hp := true } (cells_app2 { c with sm := v' } (⟨sgl, sgc, ssi, sol, soc, son, true⟩ : St) x5) rfl
          have ha := after2 c v' xs (⟨sgl, sgc, ssi, sol, soc, son, true⟩ : St) rfl HFF.out
          rw [show nof true (xs ++ (cm (lastOf xs) ++ encs [(((⟨sgl, sgc, ssi, sol, soc, son, true⟩ : St)).gc) - c.p.gc, (((⟨sgl, sgc, ssi, sol, soc, son, true⟩ : St)).si) - c.p.si, (((⟨sgl, sgc, ssi, sol, soc, son, true⟩ : St)).ol) - c.p.ol, (((⟨sgl, sgc, ssi, sol, soc, son, true⟩ : St)).oc) - c.p.oc])).length = x5 from HX5.out] at ha
          rw [← ha, ← HYS.out] at k1
          exact ⟨v', rfl, k1, k2⟩
        · have g1 : (f == 0) = false := by simp [hf0]
          have g2 : decide (f = 0) = false := by simp [hf0]
          have HF0 := Lib.hid hf0
          clear hf0
          go_upto_region 12 with (go_at_call 22; refine (HV.out _).mono ?_; rintro e w7 ⟨rfl, hg7⟩; have H7 := Lib.hid (H6.out.1.gbn hg7); clear hg7)
          clear e17 lg g1 g2
          have f18 := H7.out.blk.free 18
          have k18 : w7.cell? ⟨g, 18, none⟩ = some (.bool c.hp) := (H7.out.blk.cell 18).trans (chain18 { c with sm := v' } (⟨sgl, sgc, ssi, sol, soc, son, true⟩ : St))
          have lg := H7.out.blk.lt
          have H8 := Lib.hid (H7.out.put 18 (.bool true))
          go_wp2_with fail
          go_end0
          rw [← HQ.out]
          obtain ⟨k1, k2⟩ := Rw.cbd H8.out { c with sm := v', p := (⟨sgl, sgc, ssi, sol, soc, son, true⟩ : St), hp := true } (cells_app1 { c with sm := v' } (⟨sgl, sgc, ssi, sol, soc, son, true⟩ : St)) rfl
          rw [← after1 c v' xs (⟨sgl, sgc, ssi, sol, soc, son, true⟩ : St) rfl (by rw [HFF.out]; exact HF0.out), ← HYS.out] at k1
          exact ⟨v', rfl, k1, k2⟩
end Go.Proofs.YtfbeeekakfllpaaDoor
