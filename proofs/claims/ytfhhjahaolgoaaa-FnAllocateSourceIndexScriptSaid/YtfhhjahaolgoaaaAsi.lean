/-
  scanner.allocateSourceIndex at this seat: the results array grows to the number handed out.
-/
import Derived.Test.YtfhhjahaolgoaaaGet
import Derived.Test.YtfhhjahaolgoaaaReg
import Derived.Laws.OwnMore
import Derived.Deep.DeepCutAuto
namespace Go.Proofs.Ytfhhjahaolgoaaa
open Go.RowKit Go.Maps

/-- a slice of parse results of length k from block B on; nobody looks at its elements -/
def Rs (w : World) (B : Nat) (v : Value) (k : Nat) : Prop := (v = .slice none 0 0 ∧ k = 0) ∨
  ∃ g cap cur, v = .slice (some ⟨g, 0, none⟩) k cap ∧ B ≤ g ∧ Blk w g 220 cur ∧ k ≤ cap ∧ cap ≤ maxLen ∧ cur.size = cap * 27 ∧ ∀ u ∈ cur.toList, u.oneCell' = true
theorem Rs.ex {w w' : World} {B k : Nat} {v : Value} {l : List Nat} (h : Rs w B v k) (hx : Ex w l w') (hl : ∀ i ∈ l, i < B) : Rs w' B v k := by
  rcases h with h | ⟨g, cap, cur, rfl, hB, hb, h1, h2, h3, h4⟩
  · exact .inl h
  · exact .inr ⟨g, cap, cur, rfl, hB, hx.blk hb (fun e => by have := hl g e; omega), h1, h2, h3, h4⟩

theorem info220 : (Try.prog.info? 220).map (fun i => (i.size, decide (i.bytes ≤ 1024), i.zero.map fun z => (z.cells.size, z.cells.all (·.oneCell')))) = some (27, true, some (27, true)) := by kernel_rfl

theorem made_one {z : Array Value} (hz : z.size = 27) (h1 : z.all (·.oneCell') = true) (n : Nat) : ∀ u ∈ (madeCells z n).toList, u.oneCell' = true := by
  intro u hu
  simp only [madeCells, Array.toList_map, List.mem_map] at hu
  obtain ⟨i, _, rfl⟩ := hu
  have hi : i % z.size < z.size := Nat.mod_lt _ (by omega)
  rw [getElem!_pos z (i % z.size) hi]
  exact Array.all_eq_true.1 h1 _ hi

/-- a longer array is made, the elements are copied -/
theorem grow_at {W : World} {B k cap m : Nat} {a : Option Addr} (h : Rs W B (.slice a k cap) k) (q : Nat) (hq : W.heap.size = q) (hB : B ≤ q) (hk : k ≤ m) (hm : m ≤ 200000) (C : Int) (hC : C = (m : Int)) :
    ∃ wm wa, (Instr.makeSlice 44 (.int .i64 0) (.int .i64 C)).run Try.prog W = .ok (.slice (some ⟨q, 0, none⟩) 0 m) wm ∧
      (Builtin.append_ #[44, 44] 44 #[.slice (some ⟨q, 0, none⟩) 0 m, .slice a k cap]).run Try.prog wm = .ok (.slice (some ⟨q, 0, none⟩) k m) wa ∧
      Ex W [] wm ∧ Ex W [] wa ∧ Rs wa B (.slice (some ⟨q, 0, none⟩) k m) k := by
  subst hq
  subst hC
  obtain ⟨i, hi, hii⟩ := Option.map_eq_some_iff.1 info220
  simp only [Prod.mk.injEq, decide_eq_true_eq] at hii
  obtain ⟨i1, i2, i3⟩ := hii
  obtain ⟨z, hz, hzz⟩ := Option.map_eq_some_iff.1 i3
  simp only [Prod.mk.injEq] at hzz
  have hbytes : (i.bytes : Int) * (m : Int) ≤ 281474976710656 := by
    have h1 : i.bytes * m ≤ 1024 * 200000 := Nat.mul_le_mul i2 hm
    have h2 : ((i.bytes * m : Nat) : Int) ≤ 281474976710656 := by omega
    rwa [Int.natCast_mul] at h2
  have hr := run_make (P := Try.prog) W 44 220 i z Try.underlying44 hi hz .i64 .i64 0 m (Int.le_refl _) (by omega) hbytes (by omega)
  simp only [Int.toNat_zero, Int.toNat_natCast, i1] at hr
  have hnew : Blk (W.alloc (.cells (madeCells z.cells (m * 27)) 220)) W.heap.size 220 (madeCells z.cells (m * 27)) := Blk.new W 220 _
  have hone := made_one hzz.1 hzz.2 (m * 27)
  have x1 : Ex W [] (W.alloc (.cells (madeCells z.cells (m * 27)) 220)) := (Ex.refl W []).alloc _
  have hml : m ≤ maxLen := by unfold maxLen; omega
  rcases h with ⟨h, rfl⟩ | ⟨g, cap', cur, h, hBg, hb, h1, h2, h3, h4⟩
  · simp only [Value.slice.injEq, true_and] at h
    obtain ⟨rfl, rfl⟩ := h
    have ho : (W.alloc (.cells (madeCells z.cells (m * 27)) 220)).ownsRow B 220 27 (.slice (some ⟨W.heap.size, 0, none⟩) 0 m) 0 [] := World.ownsRow_made W _ m hB hml (size_madeCells _ _)
    have ha := run_append_owned_none (P := Try.prog) _ B 44 44 220 i 27 Try.underlying44 hi _ _ _ ho
    exact ⟨_, _, hr, ha, x1, x1, .inr ⟨_, _, _, rfl, hB, hnew, Nat.zero_le _, hml, size_madeCells _ _, hone⟩⟩
  · simp only [Value.slice.injEq, true_and] at h
    obtain ⟨rfl, rfl⟩ := h
    have hb1 := x1.blk hb (by simp)
    have hle : k * 27 ≤ cap * 27 := Nat.mul_le_mul_right _ h1
    have hl : (cur.toList.take (k * 27)).length = k * i.size := by rw [i1, List.length_take, Array.length_toList, h3]; omega
    have ho : (W.alloc (.cells (madeCells z.cells (m * 27)) 220)).ownsRow B 220 27 (.slice (some ⟨g, 0, none⟩) k cap) k (cur.toList.take (k * 27)) := ⟨by rw [hl, i1], .inr ⟨g, cap, cur, rfl, hBg, hb1, h1, h2, h3, rfl⟩⟩
    have hnews := ho.cells (g := g) rfl
    have hone2 : ∀ u ∈ cur.toList.take (k * 27), u.oneCell' = true := fun u hu => h4 u (List.mem_of_mem_take hu)
    have hfit : 0 * i.size + (cur.toList.take (k * 27)).length ≤ (madeCells z.cells (m * 27)).size := by
      rw [hl, size_madeCells, i1, Nat.zero_mul, Nat.zero_add]; exact Nat.mul_le_mul_right _ hk
    have ha := run_append_room (P := Try.prog) _ 44 44 220 i Try.underlying44 hi W.heap.size 0 m _ hnew _ k cap _ hl hnews hone2 (by omega) hfit
    rw [Nat.zero_add] at ha
    refine ⟨_, _, hr, ha, x1, x1.gb (row := some W.heap.size) ⟨rfl, rfl, rfl, by simp, fun j _ hj => setRow_other _ _ j _ (fun e => hj (by simp [e]))⟩ (fun j e => by cases e; exact .inr (Nat.le_refl _)), .inr ⟨_, _, _, rfl, hB, setRow_heap _ _ _ _ 220 _ hnew, hk, hml, ?_, ?_⟩⟩
    · simp only [List.size_toArray, List.length_append, List.length_take, List.length_drop, Array.length_toList, size_madeCells, h3, i1]
      omega
    · intro u hu
      simp only [List.mem_append] at hu
      rcases hu with (hu | hu) | hu
      · exact hone u (List.mem_of_mem_take hu)
      · exact hone2 u hu
      · exact hone u (List.mem_of_mem_drop hu)

structure Sc {H : Type} (w : World) (s c bm B n : Nat) (D : DataW H) (nx k : Nat) : Prop where
  cs : Cs w c bm nx
  mp : Mp w bm n D
  sc : ∃ sc v, Blk w s 102 sc ∧ sc.size = 117 ∧ sc[8]? = some (.pointer (some ⟨c, 0, none⟩)) ∧ sc[11]? = some v ∧ Rs w B v k
  ne : bm ≠ c ∧ s ≠ c ∧ s ≠ bm ∧ s < B ∧ c < B ∧ bm < B

theorem Sc.ex {H : Type} {w w' : World} {s c bm B n nx k : Nat} {D : DataW H} (h : Sc w s c bm B n D nx k) {l : List Nat} (hx : Ex w l w') (hl : ∀ i ∈ l, i ≠ s ∧ i ≠ c ∧ i ≠ bm) (hB : ∀ i ∈ l, i < B) : Sc w' s c bm B n D nx k := by
  obtain ⟨⟨dc, hb, q⟩, mp, ⟨sc, v, hs, q2, q3, q4, q5⟩, ne⟩ := h
  refine ⟨⟨dc, hx.blk hb (fun e => (hl _ e).2.1 rfl), q⟩, ?_, ⟨sc, v, hx.blk hs (fun e => (hl _ e).1 rfl), q2, q3, q4, q5.ex hx hB⟩, ne⟩
  obtain ⟨es, clock, hm, r⟩ := mp
  exact ⟨es, clock, hx.heap hm (fun e => (hl _ e).2.2 rfl), r⟩

theorem hl_c {a b c : Nat} {x : Nat} (h1 : x ≠ a) (h2 : x ≠ b) (h3 : x ≠ c) : x ∉ [a, b, c] := by simp [h1, h2, h3]

/-- the state behind Get, whether the text was there or not -/
def GF {H : Type} (w : World) (s c bm B n : Nat) (D : DataW H) (nx k r : Nat) (x : Value) (wc : World) : Prop := x = .int .u32 (r : Int) ∧ Ex w [s, c, bm] wc ∧ Sc wc s c bm B n D nx k

theorem found_sc {H : Type} {s c bm B n : Nat} {D : DataW H} {nx k r : Nat} {t : ByteArray} {w : World} (h : Sc w s c bm B n D nx k) (ht : t.size ≤ maxLen) (hh : Maps.has D (kl t) = true) (hr : D.atKey (kl t) (.lit (.int .u32 0)) = .lit (.int .u32 r)) (o : Obj) :
    Calls Try.prog 10 #[.pointer (some ⟨c, 12, none⟩), pathV t, .int .u8 0] (w.alloc o).drew fun e w' => e = .returned (.int .u32 r) ∧ GF w s c bm B n D nx k r (.int .u32 r) w' := by
  obtain ⟨n1, n2, n3, n4, n5, n6⟩ := h.ne
  have h1 : Sc (w.alloc o).drew s c bm B n D nx k := h.ex (l := []) ((Ex.refl w []).alloc o).drew (by simp) (by simp)
  refine (get_found c bm n D t nx (w.alloc o).drew h1.cs n1 h1.mp ht hh).mono ?_
  rintro e w' ⟨r', rfl, hx, hat, ho, hc⟩
  rw [hr] at hat
  simp only [DataW.lit.injEq, Lit.int.injEq, true_and] at hat
  refine ⟨by rw [hat], rfl, (((Ex.refl w _).alloc o).drew).trans (hx.mono (by simp)), hc, ho, ?_, h.ne⟩
  obtain ⟨sc, v, hs, q2, q3, q4, q5⟩ := h1.sc
  exact ⟨sc, v, hx.blk hs (by simp; omega), q2, q3, q4, q5.ex hx (by simp; omega)⟩

theorem new_sc {H : Type} {s c bm B n : Nat} {D : DataW H} {nx k : Nat} {t : ByteArray} {w : World} (h : Sc w s c bm B n D nx k) (ht : t.size ≤ maxLen) (hh : Maps.has D (kl t) = false) (hn : n < 65536) (hnx : nx < 65536) (o : Obj) :
    Calls Try.prog 10 #[.pointer (some ⟨c, 12, none⟩), pathV t, .int .u8 0] (w.alloc o).drew fun e w' => e = .returned (.int .u32 nx) ∧ GF w s c bm B (n + 1) (D.put (kl t) (.lit (.int .u32 nx))) (nx + 1) k nx (.int .u32 nx) w' := by
  obtain ⟨n1, n2, n3, n4, n5, n6⟩ := h.ne
  have h1 : Sc (w.alloc o).drew s c bm B n D nx k := h.ex (l := []) ((Ex.refl w []).alloc o).drew (by simp) (by simp)
  refine (get_new c bm n D t nx (w.alloc o).drew h1.cs n1 h1.mp (by unfold maxLen; omega) ht (by omega) (by omega) hh).mono ?_
  rintro e w' ⟨rfl, hx, ho, hc⟩
  refine ⟨rfl, rfl, (((Ex.refl w _).alloc o).drew).trans (hx.mono (by simp)), by simpa using hc, ho, ?_, h.ne⟩
  obtain ⟨sc, v, hs, q2, q3, q4, q5⟩ := h1.sc
  exact ⟨sc, v, hx.blk hs (by simp; omega), q2, q3, q4, q5.ex hx (by simp; omega)⟩

set_option maxHeartbeats 4000000 in
set_option maxRecDepth 100000 in
theorem asi_found {H : Type} {s c bm B n : Nat} {D : DataW H} {nx k r : Nat} (t : ByteArray) (w : World) (h : Sc w s c bm B n D nx k) (ht : t.size ≤ maxLen) (hh : Maps.has D (kl t) = true) (hr : D.atKey (kl t) (.lit (.int .u32 0)) = .lit (.int .u32 r))
    (hk : r + 1 ≤ k) (hk2 : k < 65536) :
    Calls Try.prog 9 #[.pointer (some ⟨s, 0, none⟩), pathV t, .int .u8 0] w fun e w' => e = .returned (.int .u32 r) ∧ GF w s c bm B n D nx k r (.int .u32 r) w' := by
  have HG := fun o => found_sc h ht hh hr o
  have c8 : ∀ o, (w.alloc o).drew.cell? ⟨s, 8, none⟩ = some (.pointer (some ⟨c, 0, none⟩)) := fun o => by
    obtain ⟨sc, v, hs, q2, q3, q4, q5⟩ := h.sc
    exact ((hs.alloc o).cell 8).trans q3
  have hbox := Blk.new w 108 #[.string t, .string e0, .string e0, .string e0, .int .u8 0]
  have k0 := hbox.drew.cell 0
  have k1 := hbox.drew.cell 1
  have k2 := hbox.drew.cell 2
  have k3 := hbox.drew.cell 3
  have k4 := hbox.drew.cell 4
  simp at k0 k1 k2 k3 k4
  clear hbox
  unfold pathV
  unfold pathV at HG
  go_enter Try.func9, Try.ntmps9
  go_upto_region 1 with fail
  go_cut [7] (fun x wc => GF w s c bm B n D nx k r x wc)
  case first =>
    go_region_with (go_at_call 10; refine (HG _).mono ?_; rintro e w1 ⟨rfl, hg⟩)
    all_goals
      go_wp2_with fail
      go_meet
      exact hg
  case rest =>
    obtain ⟨rfl, hx, h2⟩ := hcut
    obtain ⟨sc, v, hs, hsz, q8, q11, hrs⟩ := h2.sc
    have c11 := (hs.cell 11).trans q11
    obtain ⟨a, cap, rfl⟩ : ∃ a cap, v = .slice a k cap := by
      rcases hrs with ⟨rfl, rfl⟩ | ⟨g, cap, cur, rfl, _⟩
      · exact ⟨_, _, rfl⟩
      · exact ⟨_, _, rfl⟩
    have hlt : decide ((k : Int) < (r : Int) + 1) = false := by simp; omega
    go_wp2_with fail
    go_ret
    exact ⟨rfl, rfl, hx, h2⟩

/-- the array is cut to its new length -/
theorem Rs.cut {w : World} {B g cap k n1 : Nat} (h : Rs w B (.slice (some ⟨g, 0, none⟩) k cap) k) (hn : n1 ≤ cap) : Rs w B (.slice (some ⟨g, 0, none⟩) n1 cap) n1 := by
  rcases h with ⟨h, _⟩ | ⟨g', cap', cur, h, hB, hb, h1, h2, h3, h4⟩
  · cases h
  · simp only [Value.slice.injEq, Option.some.injEq, Addr.mk.injEq, and_true, true_and] at h
    obtain ⟨rfl, rfl⟩ := h
    exact .inr ⟨g, cap, cur, rfl, hB, hb, hn, h2, h3, h4⟩

theorem get11 {sc : Array Value} (hsz : sc.size = 117) (v : Value) : (sc.setIfInBounds 11 v)[11]? = some v := by simp [hsz]

/-- the results' field is set -/
theorem Sc.put {H : Type} {w : World} {s c bm B n nx k k' : Nat} {D : DataW H} (h : Sc w s c bm B n D nx k) {v : Value} (hv : Rs w B v k') : Sc (w.setCell ⟨s, 11, none⟩ v) s c bm B n D nx k' := by
  obtain ⟨⟨dc, hb, q⟩, mp, ⟨sc, u, hs, q2, q3, q4, q5⟩, ne⟩ := h
  obtain ⟨m1, m2, m3, m4, m5, m6⟩ := ne
  refine ⟨⟨dc, blk_set_ne hb (fun e => m2 e.symm) _ _ _, q⟩, mp.setCell (a := ⟨s, 11, none⟩) (fun e => m3 e.symm) _, ⟨_, v, hs.set 11 v, by simp [q2], ?_, get11 q2 v, ?_⟩, m1, m2, m3, m4, m5, m6⟩
  · rw [Array.getElem?_setIfInBounds_ne (by decide)]; exact q3
  · exact hv.ex (l := [s]) ((Ex.refl w [s]).set (.inl (by simp)) _ _) (by simpa using m4)

theorem step_append {P : Program} {ops : Array Oper} {o : Oper} {a : Act} {w w' : World} {K : Act → World → Prop} {Q : Exit → Act → World → Prop} {E : Prop} {v1 v2 v : Value} (hw : Region.wanted o (yielded ops a.tmps) = true) (x y : Operand) (t : TypeId)
    (hop : o.op = Op.call { callee := Callee.builtin Builtin.append, args := #[x, y], argTypes := #[t, t] }) (h1 : a.eval x = v1) (h2 : a.eval y = v2) (hrun : (Builtin.append_ #[t, t] o.type #[v1, v2]).run P w = .ok v w')
    (h : K (a.put o.dst v) w') : if Region.wanted o (yielded ops a.tmps) = true then Oper.wp P o a w K Q else E := by
  rw [if_pos hw]
  unfold Oper.wp
  simp [execOp, hop, resolve, invoke, builtin, h1, h2, hrun, Result.andThen]
  exact h

set_option maxHeartbeats 4000000 in
set_option maxRecDepth 100000 in
theorem asi_new {H : Type} {s c bm B n : Nat} {D : DataW H} {nx k : Nat} (t : ByteArray) (w : World) (h : Sc w s c bm B n D nx k) (hBw : B ≤ w.heap.size) (ht : t.size ≤ maxLen) (hh : Maps.has D (kl t) = false) (hn : n < 65536) (hnx : nx < 65536) (hk : k ≤ nx) :
    Calls Try.prog 9 #[.pointer (some ⟨s, 0, none⟩), pathV t, .int .u8 0] w fun e w' => e = .returned (.int .u32 nx) ∧ Ex w [s, c, bm] w' ∧ Sc w' s c bm B (n + 1) (D.put (kl t) (.lit (.int .u32 nx))) (nx + 1) (nx + 1) := by
  have HG := fun o => new_sc h ht hh hn hnx o
  have c8 : ∀ o, (w.alloc o).drew.cell? ⟨s, 8, none⟩ = some (.pointer (some ⟨c, 0, none⟩)) := fun o => by
    obtain ⟨sc, v, hs, q2, q3, q4, q5⟩ := h.sc
    exact ((hs.alloc o).cell 8).trans q3
  have hbox := Blk.new w 108 #[.string t, .string e0, .string e0, .string e0, .int .u8 0]
  have k0 := hbox.drew.cell 0
  have k1 := hbox.drew.cell 1
  have k2 := hbox.drew.cell 2
  have k3 := hbox.drew.cell 3
  have k4 := hbox.drew.cell 4
  simp at k0 k1 k2 k3 k4
  clear hbox
  unfold pathV
  unfold pathV at HG
  go_enter Try.func9, Try.ntmps9
  go_upto_region 1 with fail
  go_cut [7] (fun x wc => GF w s c bm B (n + 1) (D.put (kl t) (.lit (.int .u32 nx))) (nx + 1) k nx x wc)
  case first =>
    go_region_with (go_at_call 10; refine (HG _).mono ?_; rintro e w1 ⟨rfl, hg⟩)
    all_goals
      go_wp2_with fail
      go_meet
      exact hg
  case rest =>
    obtain ⟨rfl, hx, h2⟩ := hcut
    clear HG c8 k0 k1 k2 k3 k4
    obtain ⟨sc, v, hs, hsz, q8, q11, hrs⟩ := h2.sc
    have c11 := (hs.cell 11).trans q11
    have f11 := hs.free 11
    obtain ⟨n1, hn1⟩ : ∃ n1, nx + 1 = n1 := ⟨_, rfl⟩
    have hI : (nx : Int) + 1 = (n1 : Int) := by omega
    have hBc : B ≤ wc.heap.size := Nat.le_trans hBw hx.size
    obtain ⟨a, cap, rfl⟩ : ∃ a cap, v = .slice a k cap := by
      rcases hrs with ⟨rfl, rfl⟩ | ⟨g, cap, cur, rfl, _⟩
      · exact ⟨_, _, rfl⟩
      · exact ⟨_, _, rfl⟩
    have hlt : decide ((k : Int) < (n1 : Int)) = true := by simp; omega
    obtain ⟨m1, m2, m3, m4, m5, m6⟩ := h2.ne
    rcases Nat.lt_or_ge cap n1 with hc | hc
    · have hcp : decide ((cap : Int) < (n1 : Int)) = true := by simp; omega
      obtain ⟨wm, wa, hmk, happ, xm, xa, hra⟩ := grow_at (W := wc.drew) (m := 2 * n1) hrs wc.heap.size rfl hBc (by omega) (by omega) (2 * (n1 : Int)) (by omega)
      have hsm := (xm.blk hs (by simp))
      have hsa := (xa.blk hs (by simp))
      have d11 : wc.drew.cell? ⟨s, 11, none⟩ = _ := c11
      have cm11 := (hsm.cell 11).trans q11
      have ca11 := (hsa.cell 11).trans q11
      have fa11 := hsa.free 11
      have hwr : IntKind.i64.wrap (2 * (n1 : Int)) = 2 * (n1 : Int) := by rw [IntWalk.i64_in _ (by omega)]
      go_upto_region 5 with fail
      go_cut [] (fun wx => wx = wa.setCell ⟨s, 11, none⟩ (.slice (some ⟨wc.heap.size, 0, none⟩) k (2 * n1)))
      case first =>
        refine wp_region_any (by kernel_rfl) ?_
        change wpAny _ _ _ _ _ _ _ (World.drew _)
        refine wpAny_take (i := 0) (v := .pointer (some ⟨s, 0, none⟩)) rfl (by kernel_rfl) (by kernel_rfl) (by kernel_rfl) (fun _ _ _ h => h) (Or.inl ⟨by rfl, fun w => by go_simp⟩) ?_
        simp only [Act.put]
        refine wpAny_take (i := 1) (v := .int .i64 (n1 : Int)) rfl (by kernel_rfl) (by kernel_rfl) (by kernel_rfl) (fun _ _ _ h => h) (Or.inl ⟨by rfl, fun w => by go_simp⟩) ?_
        simp only [Act.put]
        refine wpAny_take (i := 2) (v := .int .i64 (2 * (n1 : Int))) rfl (by kernel_rfl) (by kernel_rfl) (by kernel_rfl) (fun _ _ _ h => h) (Or.inl ⟨by rfl, fun w => by go_simp⟩) ?_
        simp only [Act.put]
        refine wpAny_take (i := 4) (v := .pointer (some ⟨s, 0, none⟩)) rfl (by kernel_rfl) (by kernel_rfl) (by kernel_rfl) (fun _ _ _ h => h) (Or.inl ⟨by rfl, fun w => by go_simp⟩) ?_
        simp only [Act.put]
        refine wpAny_take (i := 5) (v := .pointer (some ⟨s, 0, none⟩)) rfl (by kernel_rfl) (by kernel_rfl) (by kernel_rfl) (fun _ _ _ h => h) (Or.inl ⟨by rfl, fun w => by go_simp⟩) ?_
        simp only [Act.put]
        refine wpAny_take (i := 6) (v := .pointer (some ⟨s, 11, none⟩)) rfl (by kernel_rfl) (by kernel_rfl) (by kernel_rfl) (fun _ _ _ h => h) (Or.inl ⟨by rfl, fun w => by go_simp⟩) ?_
        simp only [Act.put]
        refine wpAny_ready (rs := [3, 7]) (by kernel_rfl) (by simp) ?_
        refine AllReady.cons rfl (fun K hK => ?_) (AllReady.cons rfl (fun K hK => ?_) AllReady.nil)
        · go_simp
          refine hK _ _ ?_
          clear hK K
          refine wpAny_ready (rs := [7]) (by kernel_rfl) (by simp) ?_
          refine AllReady.cons rfl (fun K hK => ?_) AllReady.nil
          go_simp
          refine hK _ _ ?_
          clear hK K
          refine wpAny_ready (rs := [8]) (by kernel_rfl) (by simp) ?_
          refine AllReady.cons (o := { dst := some 43, op := Op.call { callee := Callee.builtin Builtin.append, args := #[Operand.tmp 38, Operand.tmp 42], argTypes := #[44, 44] }, type := 44, pos := _, after := _, guard := none }) rfl (fun K hK => ?_) AllReady.nil
          refine step_append (by kernel_rfl) (.tmp 38) (.tmp 42) 44 rfl (v1 := .slice (some ⟨wc.heap.size, 0, none⟩) 0 (2 * n1)) (v2 := .slice a k cap) (by rfl) (by rfl) happ ?_
          refine hK _ _ ?_
          clear hK K
          simp only [Act.put]
          refine wpAny_take (i := 9) (v := .pointer (some ⟨s, 0, none⟩)) rfl (by kernel_rfl) (by kernel_rfl) (by kernel_rfl) (fun _ _ _ h => h) (Or.inl ⟨by rfl, fun w => by go_simp⟩) ?_
          simp only [Act.put]
          refine wpAny_take (i := 10) (v := .pointer (some ⟨s, 11, none⟩)) rfl (by kernel_rfl) (by kernel_rfl) (by kernel_rfl) (fun _ _ _ h => h) (Or.inl ⟨by rfl, fun w => by go_simp⟩) ?_
          simp only [Act.put]
          refine wpAny_ready (rs := [11]) (by kernel_rfl) (by simp) ?_
          refine AllReady.cons rfl (fun K hK => ?_) AllReady.nil
          go_simp
          refine hK _ _ ?_
          clear hK K
          refine wpAny_done (by kernel_rfl) ?_ _
          go_wp2_with fail
          go_meet
          rfl
        · go_simp
          refine hK _ _ ?_
          clear hK K
          refine wpAny_ready (rs := [3]) (by kernel_rfl) (by simp) ?_
          refine AllReady.cons rfl (fun K hK => ?_) AllReady.nil
          go_simp
          refine hK _ _ ?_
          clear hK K
          refine wpAny_ready (rs := [8]) (by kernel_rfl) (by simp) ?_
          refine AllReady.cons (o := { dst := some 43, op := Op.call { callee := Callee.builtin Builtin.append, args := #[Operand.tmp 38, Operand.tmp 42], argTypes := #[44, 44] }, type := 44, pos := _, after := _, guard := none }) rfl (fun K hK => ?_) AllReady.nil
          refine step_append (by kernel_rfl) (.tmp 38) (.tmp 42) 44 rfl (v1 := .slice (some ⟨wc.heap.size, 0, none⟩) 0 (2 * n1)) (v2 := .slice a k cap) (by rfl) (by rfl) happ ?_
          refine hK _ _ ?_
          clear hK K
          simp only [Act.put]
          refine wpAny_take (i := 9) (v := .pointer (some ⟨s, 0, none⟩)) rfl (by kernel_rfl) (by kernel_rfl) (by kernel_rfl) (fun _ _ _ h => h) (Or.inl ⟨by rfl, fun w => by go_simp⟩) ?_
          simp only [Act.put]
          refine wpAny_take (i := 10) (v := .pointer (some ⟨s, 11, none⟩)) rfl (by kernel_rfl) (by kernel_rfl) (by kernel_rfl) (fun _ _ _ h => h) (Or.inl ⟨by rfl, fun w => by go_simp⟩) ?_
          simp only [Act.put]
          refine wpAny_ready (rs := [11]) (by kernel_rfl) (by simp) ?_
          refine AllReady.cons rfl (fun K hK => ?_) AllReady.nil
          go_simp
          refine hK _ _ ?_
          clear hK K
          refine wpAny_done (by kernel_rfl) ?_ _
          go_wp2_with fail
          go_meet
          rfl
      case rest =>
        subst hcut
        have e11 : (wa.setCell ⟨s, 11, none⟩ (.slice (some ⟨wc.heap.size, 0, none⟩) k (2 * n1))).cell? ⟨s, 11, none⟩ = some (.slice (some ⟨wc.heap.size, 0, none⟩) k (2 * n1)) := ((hsa.set 11 _).cell 11).trans (get11 hsz _)
        have fe11 := (hsa.set 11 (.slice (some ⟨wc.heap.size, 0, none⟩) k (2 * n1))).free 11
        go_wp2_with fail
        go_ret
        have h3 : Sc wa s c bm B (n + 1) (D.put (kl t) (.lit (.int .u32 nx))) (nx + 1) k := (h2.ex (l := []) ((Ex.refl wc []).drew) (by simp) (by simp)).ex xa (by simp) (by simp)
        have h4 := (h3.put hra)
        have h5 := h4.put ((hra.ex (l := [s]) ((Ex.refl wa [s]).set (.inl (by simp)) 11 (.slice (some ⟨wc.heap.size, 0, none⟩) k (2 * n1))) (by simpa using m4)).cut (n1 := n1) (by omega))
        refine ⟨rfl, ((hx.drew.trans (xa.mono (by simp))).set (.inl (by simp)) _ _).set (.inl (by simp)) _ _, ?_⟩
        rw [hn1] at h5 ⊢
        exact h5
    · have hcp : decide ((cap : Int) < (n1 : Int)) = false := by simp; omega
      obtain ⟨g, rfl⟩ : ∃ g, a = some ⟨g, 0, none⟩ := by
        rcases hrs with ⟨e, _⟩ | ⟨g, cap', cur, e, _⟩
        · cases e; omega
        · cases e; exact ⟨g, rfl⟩
      go_wp2_with fail
      go_ret
      have h5 := h2.put (hrs.cut hc)
      refine ⟨rfl, hx.set (.inl (by simp)) _ _, ?_⟩
      rw [hn1] at h5 ⊢
      exact h5
end Go.Proofs.Ytfhhjahaolgoaaa
