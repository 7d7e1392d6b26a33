/-
  The symbol table that the law lays: zzPlainSymbols, zzLinkedSymbols. No statement of the seat is proved here.
-/
import Derived.Test.YtdpigpogicapoaaDoorNr
import Derived.Deep.LoopGhost
namespace Go.Proofs.YtdpigpogicapoaaDoor
open Go.RowKit
set_option linter.unusedVariables false
set_option linter.unusedSimpArgs false

/-- a row of values is stored into a block -/
theorem setCells_at {b : Nat} {t : TypeId} : ∀ (vs : List Value) (o : Nat) (w : World) (cs : Array Value), Blk w b t cs →
    ∃ cs', Blk (w.setCells b o vs) b t cs' ∧ cs'.size = cs.size ∧ (∀ k, (k < o ∨ o + vs.length ≤ k) → cs'[k]? = cs[k]?) ∧ (∀ j v, vs[j]? = some v → o + j < cs.size → cs'[o + j]? = some v) := by
  intro vs
  induction vs with
  | nil => intro o w cs h; exact ⟨cs, by rw [World.setCells]; exact h, rfl, fun _ _ => rfl, fun j v hj => by simp at hj⟩
  | cons x vs ih =>
    intro o w cs h
    obtain ⟨cs', h1, h2, h3, h4⟩ := ih (o + 1) _ _ (h.set o x)
    refine ⟨cs', by rw [World.setCells]; exact h1, by simpa using h2, ?_, ?_⟩
    · intro k hk
      rw [h3 k (by simp at hk ⊢; omega), Array.getElem?_setIfInBounds_ne (by simp at hk; omega)]
    · intro j v hj hl
      cases j with
      | zero =>
        simp at hj
        subst hj
        rw [h3 _ (.inl (by omega)), Nat.add_zero, Array.getElem?_setIfInBounds_self_of_lt (by omega)]
      | succ j =>
        simp at hj
        have := h4 j v hj (by simp; omega)
        rwa [show o + (j + 1) = o + 1 + j by omega]
theorem Blk.has {w : World} {S : Nat} {t : TypeId} {cs : Array Value} (h : Blk w S t cs) {i : Nat} (hi : i < cs.size) : ∃ u, w.cell? ⟨S, i, none⟩ = some u := ⟨cs[i], by rw [h.cell, Array.getElem?_eq_getElem hi]⟩
theorem put10 {w : World} {S : Nat} {cs : Array Value} (h : Blk w S 48 cs) (o : Nat) (ho : o + 10 ≤ cs.size) (t : ByteArray) :
    ∃ u0 u1 u2 u3 u4 u5 u6 u7 u8 u9 : Value, w.cell? ⟨S, o, none⟩ = some u0 ∧ w.frozen? ⟨S, o, none⟩ = false ∧ (w.setCell ⟨S, o, none⟩ (.pointer none)).cell? ⟨S, o + 1, none⟩ = some u1 ∧ (w.setCell ⟨S, o, none⟩ (.pointer none)).frozen? ⟨S, o + 1, none⟩ = false ∧ ((w.setCell ⟨S, o, none⟩ (.pointer none)).setCell ⟨S, o + 1, none⟩ (.string t)).cell? ⟨S, o + 2, none⟩ = some u2 ∧ ((w.setCell ⟨S, o, none⟩ (.pointer none)).setCell ⟨S, o + 1, none⟩ (.string t)).frozen? ⟨S, o + 2, none⟩ = false ∧ (((w.setCell ⟨S, o, none⟩ (.pointer none)).setCell ⟨S, o + 1, none⟩ (.string t)).setCell ⟨S, o + 2, none⟩ (.int .u32 4294967295)).cell? ⟨S, o + 3, none⟩ = some u3 ∧ (((w.setCell ⟨S, o, none⟩ (.pointer none)).setCell ⟨S, o + 1, none⟩ (.string t)).setCell ⟨S, o + 2, none⟩ (.int .u32 4294967295)).frozen? ⟨S, o + 3, none⟩ = false ∧ ((((w.setCell ⟨S, o, none⟩ (.pointer none)).setCell ⟨S, o + 1, none⟩ (.string t)).setCell ⟨S, o + 2, none⟩ (.int .u32 4294967295)).setCell ⟨S, o + 3, none⟩ (.int .u32 4294967295)).cell? ⟨S, o + 4, none⟩ = some u4 ∧ ((((w.setCell ⟨S, o, none⟩ (.pointer none)).setCell ⟨S, o + 1, none⟩ (.string t)).setCell ⟨S, o + 2, none⟩ (.int .u32 4294967295)).setCell ⟨S, o + 3, none⟩ (.int .u32 4294967295)).frozen? ⟨S, o + 4, none⟩ = false ∧ (((((w.setCell ⟨S, o, none⟩ (.pointer none)).setCell ⟨S, o + 1, none⟩ (.string t)).setCell ⟨S, o + 2, none⟩ (.int .u32 4294967295)).setCell ⟨S, o + 3, none⟩ (.int .u32 4294967295)).setCell ⟨S, o + 4, none⟩ (.int .u32 0)).cell? ⟨S, o + 5, none⟩ = some u5 ∧ (((((w.setCell ⟨S, o, none⟩ (.pointer none)).setCell ⟨S, o + 1, none⟩ (.string t)).setCell ⟨S, o + 2, none⟩ (.int .u32 4294967295)).setCell ⟨S, o + 3, none⟩ (.int .u32 4294967295)).setCell ⟨S, o + 4, none⟩ (.int .u32 0)).frozen? ⟨S, o + 5, none⟩ = false ∧ ((((((w.setCell ⟨S, o, none⟩ (.pointer none)).setCell ⟨S, o + 1, none⟩ (.string t)).setCell ⟨S, o + 2, none⟩ (.int .u32 4294967295)).setCell ⟨S, o + 3, none⟩ (.int .u32 4294967295)).setCell ⟨S, o + 4, none⟩ (.int .u32 0)).setCell ⟨S, o + 5, none⟩ (.int .u32 0)).cell? ⟨S, o + 6, none⟩ = some u6 ∧ ((((((w.setCell ⟨S, o, none⟩ (.pointer none)).setCell ⟨S, o + 1, none⟩ (.string t)).setCell ⟨S, o + 2, none⟩ (.int .u32 4294967295)).setCell ⟨S, o + 3, none⟩ (.int .u32 4294967295)).setCell ⟨S, o + 4, none⟩ (.int .u32 0)).setCell ⟨S, o + 5, none⟩ (.int .u32 0)).frozen? ⟨S, o + 6, none⟩ = false ∧ (((((((w.setCell ⟨S, o, none⟩ (.pointer none)).setCell ⟨S, o + 1, none⟩ (.string t)).setCell ⟨S, o + 2, none⟩ (.int .u32 4294967295)).setCell ⟨S, o + 3, none⟩ (.int .u32 4294967295)).setCell ⟨S, o + 4, none⟩ (.int .u32 0)).setCell ⟨S, o + 5, none⟩ (.int .u32 0)).setCell ⟨S, o + 6, none⟩ (.int .u32 0)).cell? ⟨S, o + 7, none⟩ = some u7 ∧ (((((((w.setCell ⟨S, o, none⟩ (.pointer none)).setCell ⟨S, o + 1, none⟩ (.string t)).setCell ⟨S, o + 2, none⟩ (.int .u32 4294967295)).setCell ⟨S, o + 3, none⟩ (.int .u32 4294967295)).setCell ⟨S, o + 4, none⟩ (.int .u32 0)).setCell ⟨S, o + 5, none⟩ (.int .u32 0)).setCell ⟨S, o + 6, none⟩ (.int .u32 0)).frozen? ⟨S, o + 7, none⟩ = false ∧ ((((((((w.setCell ⟨S, o, none⟩ (.pointer none)).setCell ⟨S, o + 1, none⟩ (.string t)).setCell ⟨S, o + 2, none⟩ (.int .u32 4294967295)).setCell ⟨S, o + 3, none⟩ (.int .u32 4294967295)).setCell ⟨S, o + 4, none⟩ (.int .u32 0)).setCell ⟨S, o + 5, none⟩ (.int .u32 0)).setCell ⟨S, o + 6, none⟩ (.int .u32 0)).setCell ⟨S, o + 7, none⟩ (.int .u16 0)).cell? ⟨S, o + 8, none⟩ = some u8 ∧ ((((((((w.setCell ⟨S, o, none⟩ (.pointer none)).setCell ⟨S, o + 1, none⟩ (.string t)).setCell ⟨S, o + 2, none⟩ (.int .u32 4294967295)).setCell ⟨S, o + 3, none⟩ (.int .u32 4294967295)).setCell ⟨S, o + 4, none⟩ (.int .u32 0)).setCell ⟨S, o + 5, none⟩ (.int .u32 0)).setCell ⟨S, o + 6, none⟩ (.int .u32 0)).setCell ⟨S, o + 7, none⟩ (.int .u16 0)).frozen? ⟨S, o + 8, none⟩ = false ∧ (((((((((w.setCell ⟨S, o, none⟩ (.pointer none)).setCell ⟨S, o + 1, none⟩ (.string t)).setCell ⟨S, o + 2, none⟩ (.int .u32 4294967295)).setCell ⟨S, o + 3, none⟩ (.int .u32 4294967295)).setCell ⟨S, o + 4, none⟩ (.int .u32 0)).setCell ⟨S, o + 5, none⟩ (.int .u32 0)).setCell ⟨S, o + 6, none⟩ (.int .u32 0)).setCell ⟨S, o + 7, none⟩ (.int .u16 0)).setCell ⟨S, o + 8, none⟩ (.int .u8 0)).cell? ⟨S, o + 9, none⟩ = some u9 ∧ (((((((((w.setCell ⟨S, o, none⟩ (.pointer none)).setCell ⟨S, o + 1, none⟩ (.string t)).setCell ⟨S, o + 2, none⟩ (.int .u32 4294967295)).setCell ⟨S, o + 3, none⟩ (.int .u32 4294967295)).setCell ⟨S, o + 4, none⟩ (.int .u32 0)).setCell ⟨S, o + 5, none⟩ (.int .u32 0)).setCell ⟨S, o + 6, none⟩ (.int .u32 0)).setCell ⟨S, o + 7, none⟩ (.int .u16 0)).setCell ⟨S, o + 8, none⟩ (.int .u8 0)).frozen? ⟨S, o + 9, none⟩ = false := by
  have f0 := h.free (o)
  obtain ⟨u0, c0⟩ := h.has (i := o) (by omega)
  have h1 := h.set (o) (.pointer none)
  have f1 := h1.free (o + 1)
  obtain ⟨u1, c1⟩ := h1.has (i := o + 1) (by simp; omega)
  have h2 := h1.set (o + 1) (.string t)
  have f2 := h2.free (o + 2)
  obtain ⟨u2, c2⟩ := h2.has (i := o + 2) (by simp; omega)
  have h3 := h2.set (o + 2) (.int .u32 4294967295)
  have f3 := h3.free (o + 3)
  obtain ⟨u3, c3⟩ := h3.has (i := o + 3) (by simp; omega)
  have h4 := h3.set (o + 3) (.int .u32 4294967295)
  have f4 := h4.free (o + 4)
  obtain ⟨u4, c4⟩ := h4.has (i := o + 4) (by simp; omega)
  have h5 := h4.set (o + 4) (.int .u32 0)
  have f5 := h5.free (o + 5)
  obtain ⟨u5, c5⟩ := h5.has (i := o + 5) (by simp; omega)
  have h6 := h5.set (o + 5) (.int .u32 0)
  have f6 := h6.free (o + 6)
  obtain ⟨u6, c6⟩ := h6.has (i := o + 6) (by simp; omega)
  have h7 := h6.set (o + 6) (.int .u32 0)
  have f7 := h7.free (o + 7)
  obtain ⟨u7, c7⟩ := h7.has (i := o + 7) (by simp; omega)
  have h8 := h7.set (o + 7) (.int .u16 0)
  have f8 := h8.free (o + 8)
  obtain ⟨u8, c8⟩ := h8.has (i := o + 8) (by simp; omega)
  have h9 := h8.set (o + 8) (.int .u8 0)
  have f9 := h9.free (o + 9)
  obtain ⟨u9, c9⟩ := h9.has (i := o + 9) (by simp; omega)
  have h10 := h9.set (o + 9) (.int .u8 0)
  exact ⟨u0, u1, u2, u3, u4, u5, u6, u7, u8, u9, c0, f0, c1, f1, c2, f2, c3, f3, c4, f4, c5, f5, c6, f6, c7, f7, c8, f8, c9, f9⟩
/-- a table whose first k symbols bear their texts and no link -/
structure Ps (w : World) (S n k : Nat) (ts : List ByteArray) : Prop where
  out : ∃ cs, Blk w S 48 cs ∧ cs.size = 10 * n ∧ ∀ i, i < k → cs[i * 10 + 1]? = some (.string (tth ts i)) ∧ cs[i * 10 + 2]? = some (.int .u32 4294967295) ∧ cs[i * 10 + 3]? = some (.int .u32 4294967295)
def zsym (e0 : ByteArray) : Array Value := #[.pointer none, .string e0, .int .u32 0, .int .u32 0, .int .u32 0, .int .u32 0, .int .u32 0, .int .u16 0, .int .u8 0, .int .u8 0]
def sym (t : ByteArray) : List Value := [.pointer none, .string t, .int .u32 4294967295, .int .u32 4294967295, .int .u32 0, .int .u32 0, .int .u32 0, .int .u16 0, .int .u8 0, .int .u8 0]
theorem info48 : (Tryd.prog.info? 48).map (fun i => (i.zero, i.size, i.bytes)) = some (some (.agg (zsym ByteArray.empty)), 10, 48) := by kernel_rfl
theorem build48 (t : ByteArray) (w : World) : (Instr.build 48 #[(1, .string t), (2, .agg #[.int .u32 4294967295, .int .u32 4294967295])]).run Tryd.prog w = .ok (.agg (sym t).toArray) w := by kernel_rfl
theorem Ps.put {w : World} {S n k : Nat} {ts : List ByteArray} (h : Ps w S n k ts) (hk : k < n) : Ps (w.setCells S (k * 10) (sym (tth ts k))) S n (k + 1) ts := by
  obtain ⟨cs, h1, h2, h3⟩ := h.out
  obtain ⟨cs', k1, k2, k3, k4⟩ := setCells_at (sym (tth ts k)) (k * 10) w cs h1
  refine ⟨cs', k1, by omega, fun i hi => ?_⟩
  by_cases e : i = k
  · subst e
    exact ⟨k4 1 _ rfl (by omega), k4 2 _ rfl (by omega), k4 3 _ rfl (by omega)⟩
  · have := h3 i (by omega)
    have hl : (sym (tth ts k)).length = 10 := rfl
    rw [k3 _ (.inl (by omega)), k3 _ (.inl (by omega)), k3 _ (.inl (by omega))]
    exact this
theorem Ps.gb {w w' : World} {S n k : Nat} {ts : List ByteArray} {r : Option Nat} (h : Ps w S n k ts) (hg : w.grownBy w' r) (hS : some S ≠ r) : Ps w' S n k ts := by
  obtain ⟨cs, h1, h2⟩ := h.out
  exact ⟨cs, h1.gb hg hS, h2⟩
set_option maxHeartbeats 1000000 in
set_option maxRecDepth 100000 in
theorem plain_any (ao : Option Addr) (n cap : Nat) (ts : List ByteArray) (hn : ts.length = n) (hm : n ≤ 4096) (w : World) (hin : InS w ao ts) :
    Calls Tryd.prog 11 #[.slice ao n cap] w fun e w' => ∃ S, e = .returned (.slice (some ⟨S, 0, none⟩) n n) ∧ w.heap.size ≤ S ∧ Ps w' S n n ts ∧ Below w.heap.size w w' := by
  have HIN := Lib.hid hin
  clear hin
  obtain ⟨S, hS⟩ : ∃ S, w.heap.size = S := ⟨_, rfl⟩
  go_enter Tryd.func11, Tryd.ntmps11
  go_upto_region 2 with (at_make; obtain ⟨i0, hi0, hz0, hz1, hz2⟩ := info_parts info48; refine wpList_make_full w rfl _ _ 28 rfl w.heap.size 48 i0 _ 10 Tryd.underlying28 hi0 hz0 hz1 .i64 .i64 n n n rfl rfl rfl rfl (by rw [hz2]; omega) (by unfold maxLen; omega) (Nat.le_refl _) ?_; intro w2 ho2 hg2; have HM := Lib.hid (And.intro ho2 hg2); clear ho2 hg2)
  have H0 : Hid (Ps w2 S n 0 ts ∧ Below w.heap.size w w2) := Lib.hid (by
    refine ⟨?_, (Below.refl _ _).grown HM.out.2 (Nat.le_refl _) (fun k hk => by cases hk)⟩
    rcases HM.out.1.2 with ⟨h, _⟩ | ⟨g, cap, cur, hv, _, hh, _, _, hcs, _⟩
    · cases h
    · simp only [Value.slice.injEq, Option.some.injEq, Addr.mk.injEq, and_true, true_and] at hv
      obtain ⟨rfl, rfl⟩ := hv
      rw [hS] at hh
      exact ⟨_, hh, by omega, fun i hi => by omega⟩)
  clear HM
  go_wp2_with fail
  trace_state
  go_loopg [4] n (fun k a wx => ∃ i : Nat, a = .int .i64 (i : Int) ∧ i ≤ n ∧ n - i ≤ k ∧ Hid (Ps wx S n i ts ∧ Below w.heap.size w wx))
  case atStart => exact ⟨0, rfl, by omega, by omega, H0⟩
  case round =>
    obtain ⟨i, rfl, hi, hk, HB⟩ := hrel
    obtain ⟨wz, rfl⟩ : ∃ wz : World, wz = wr := ⟨_, rfl⟩
    rcases (show n = i ∨ i < n by omega) with he | hlt
    · obtain rfl := he
      go_wp2_with fail
      go_ret
      exact ⟨S, rfl, by omega, HB.out.1, HB.out.2⟩
    · obtain ⟨b, off, rfl, hblt, hc⟩ := HIN.out.at (i := i) (by omega)
      obtain ⟨t, ht⟩ : ∃ t, tth ts i = t := ⟨_, rfl⟩
      rw [ht] at hc
      have hc' : wz.drew.cell? ⟨b, off + i, none⟩ = some (.string t) := (HB.out.2.cell (p := ⟨b, off + i, none⟩) hblt).trans hc
      have hbz : b < wz.drew.heap.size := by have := HB.out.2.size; show b < wz.heap.size; omega
      obtain ⟨cs, hbl, hsz, _⟩ := HB.out.1.out
      have hbl0 := hbl.lt
      have hSz : S < wz.drew.heap.size := hbl0
      have HBL := Lib.hid hbl
      clear hbl hbl0
      have HI := Lib.hid (fun (w : World) => inv_any w)
      have hb48 := build48 t
      have ho10 : i * 10 + 10 ≤ cs.size := by omega
      go_upto_region 5 with fail
      go_region_with (go_at_call 14; refine (HI.out _).mono ?_; rintro e w6 ⟨rfl, hg6⟩; have hc6 : w6.cell? ⟨b, off + i, none⟩ = some (.string t) := (World.cell?_of_block (w := wz.drew) (hg6.block b hbz (by simp))).trans hc'; have hb6 := HBL.out.drew.gb hg6 (by simp); obtain ⟨v0, v1, v2, v3, v4, v5, v6, v7, v8, v9, c0, f0, c1, f1, c2, f2, c3, f3, c4, f4, c5, f5, c6, f6, c7, f7, c8, f8, c9, f9⟩ := put10 hb6 (i * 10) ho10 t; have H6 := Lib.hid hg6; clear hg6 hb6)
      all_goals go_wp2_with fail
      all_goals
        go_roundg (gk - 1)
        case measure => omega
        case rel =>
          have hb6 := HB.out.2.size
          have hp : Ps w6 S n i ts := HB.out.1.gb (r := none) (gb_und H6.out) (by simp)
          have hbw : Below w.heap.size w w6 := (HB.out.2.drew).grown H6.out hb6 (fun k hk => by cases hk)
          refine ⟨i + 1, by simp, by omega, by omega, Lib.hid ⟨?_, ?_⟩⟩
          · have := hp.put hlt
            rw [ht] at this
            exact this
          · have h := hbw.grown (setCells_gb (b := S) (sym t) (i * 10) w6) hbw.size (fun k hk => by cases hk; omega)
            exact h
end Go.Proofs.YtdpigpogicapoaaDoor
