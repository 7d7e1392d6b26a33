/-
  SourceIndexCache.Get at this seat: the number of a text, from the map under the lock.
-/
import Derived.Test.YtfhhjahaolgoaaaKey
import Derived.Test.YtfhhjahaolgoaaaLock
import Derived.Conc.MuLone
import Derived.WalkKit
import Derived.WalkSpells
import Derived.Deep.RegionWith
namespace Go.Proofs.Ytfhhjahaolgoaaa
open Go.RowKit Go.Maps
open Go.MuLone

/-- the cache set in block c: the map's block, the next number; the lock is free -/
def Cs (w : World) (c bm : Nat) (nx : Int) : Prop := ∃ dc : Array Value, Blk w c 133 dc ∧ dc.size = 17 ∧ dc[13]? = some (.map (some bm)) ∧ dc[14]? = some (.int .i32 0) ∧ dc[16]? = some (.int .u32 nx)

abbrev Mp {H : Type} (w : World) (bm n : Nat) (D : DataW H) : Prop := w.ownsMap Try.prog 136 (plainElem Try.prog 26) bm n D

/-- behind Lock: the lock is held, the key lies in its box -/
structure Hd {H : Type} (w0 : World) (c bm n : Nat) (D : DataW H) (t : ByteArray) (dc : Array Value) (w : World) : Prop where
  ex : Ex w0 [c, bm] w
  blk : Blk w c 133 (dc.setIfInBounds 14 (.int .i32 1))
  key : Blk w (w0.heap.size + 1) 136 #[.string t, .string e0, .string e0, .string e0, .int .u8 0, .int .u8 0]
  own : Mp w bm n D
theorem Hd.drew {H : Type} {w0 : World} {c bm n : Nat} {D : DataW H} {t : ByteArray} {dc : Array Value} {w : World} (h : Hd w0 c bm n D t dc w) : Hd w0 c bm n D t dc w.drew := ⟨h.ex.drew, h.blk, h.key, h.own⟩

theorem lock_at {H : Type} {w : World} {c bm n : Nat} {D : DataW H} {t : ByteArray} {dc : Array Value} (o : Obj) (hb : Blk w c 133 dc) (hbs : bm ≠ c) (hown : Mp w bm n D) (d14 : dc[14]? = some (.int .i32 0)) :
    Calls Try.prog 11 #[.pointer (some ⟨c, 14, none⟩)] ((w.alloc o).alloc (.cells #[.string t, .string e0, .string e0, .string e0, .int .u8 0, .int .u8 0] 136)) fun e w' => e = .returned (.tuple #[]) ∧ Hd w c bm n D t dc w' := by
  have hb2 := (hb.alloc o).alloc (.cells #[.string t, .string e0, .string e0, .string e0, .int .u8 0, .int .u8 0] 136)
  refine (lock_free Try.muLib ⟨c, 14, none⟩ _ ((hb2.cell 14).trans d14) (hb2.free 14)).mono ?_
  rintro e w' ⟨rfl, rfl⟩
  have hk : Blk ((w.alloc o).alloc (.cells #[.string t, .string e0, .string e0, .string e0, .int .u8 0, .int .u8 0] 136)) (w.heap.size + 1) 136 #[.string t, .string e0, .string e0, .string e0, .int .u8 0, .int .u8 0] := by
    have := Blk.new (w.alloc o) 136 #[.string t, .string e0, .string e0, .string e0, .int .u8 0, .int .u8 0]
    rwa [show (w.alloc o).heap.size = w.heap.size + 1 by show (w.heap.push o).size = _; rw [Array.size_push]] at this
  have hlt := hb.lt
  refine ⟨rfl, (((Ex.refl w _).alloc _).alloc _).set (.inl (by simp)) _ _, hb2.set 14 _, ?_, ?_⟩
  · exact blk_set_ne hk (by omega) _ _ _
  · exact ((hown.alloc _).alloc _).setCell (a := ⟨c, 14, none⟩) hbs _

theorem get14 {dc : Array Value} (hsz : dc.size = 17) (v : Value) : (dc.setIfInBounds 14 v)[14]? = some v := by simp [hsz]
theorem get14_ne {dc : Array Value} (v : Value) (i : Nat) (hi : i ≠ 14) : (dc.setIfInBounds 14 v)[i]? = dc[i]? := by
  rw [Array.getElem?_setIfInBounds_ne (by omega)]

theorem u32_wf {x : Int} (h0 : 0 ≤ x) (h1 : x < 4294967296) : (Lit.int .u32 x).wf = true := by
  simp [Lit.wf, IntKind.min, IntKind.max, IntKind.bits, IntKind.signed]; omega

theorem look_at {H : Type} {w : World} {bm n : Nat} {D : DataW H} {t : ByteArray} (hown : Mp w bm n D) (ht : t.size ≤ maxLen) : ∃ cc, D.atKey (kl t) (.lit (.int .u32 0)) = .lit (.int .u32 cc) ∧
    (Instr.lookup 111 (.map (some bm)) (.agg #[.string t, .string e0, .string e0, .string e0, .int .u8 0, .int .u8 0]) true).run Try.prog w = .ok (.tuple #[.int .u32 cc, .bool (Maps.has D (kl t))]) w := by
  obtain ⟨v, ps, hrun, hv⟩ := hown.look_ok keyed136 Try.underlying111 (zero26 _) (plainElem_int Try.underlying26 (by decide)) (keyOf_key t ht)
  obtain ⟨cc, rfl, hc, _⟩ := plainElem_int_inv Try.underlying26 hv
  simp only [Prod.mk.injEq] at hc
  exact ⟨cc, hc.1, hrun⟩

set_option maxHeartbeats 4000000 in
set_option maxRecDepth 100000 in
theorem get_found {H : Type} (c bm n : Nat) (D : DataW H) (t : ByteArray) (nx : Int) (w : World) (hcs : Cs w c bm nx) (hbs : bm ≠ c) (hown : Mp w bm n D) (ht : t.size ≤ maxLen) (hh : Maps.has D (kl t) = true) :
    Calls Try.prog 10 #[.pointer (some ⟨c, 12, none⟩), pathV t, .int .u8 0] w fun e w' => ∃ r, e = .returned (.int .u32 r) ∧ Ex w [c, bm] w' ∧
      D.atKey (kl t) (.lit (.int .u32 0)) = .lit (.int .u32 r) ∧ Mp w' bm n D ∧ Cs w' c bm nx := by
  obtain ⟨dc, hb, hsz, d13, d14, d16⟩ := hcs
  have HL := fun o => lock_at (t := t) o hb hbs hown d14
  unfold pathV
  go_enter_defers Try.func10, Try.ntmps10
  go_wp2_with (go_at_call 11; refine (HL _).mono ?_; rintro e w1 ⟨rfl, hd⟩; have c13 := (hd.drew.blk.cell 13).trans ((get14_ne _ 13 (by decide)).trans d13); have k0 := hd.drew.key.cell 0; have k1 := hd.drew.key.cell 1; have k2 := hd.drew.key.cell 2; have k3 := hd.drew.key.cell 3; have k4 := hd.drew.key.cell 4; have k5 := hd.drew.key.cell 5; simp at k0 k1 k2 k3 k4 k5; obtain ⟨cc, hat, hlk⟩ := look_at hd.drew.own ht; rw [hh] at hlk)
  go_region
  go_wp2
  refine leaves_cons (f := 12) (args := #[.pointer (some ⟨c, 14, none⟩)]) (by simp) (by simp [go_sem]) ?_
  refine (unlock_deferred Try.muLib ⟨c, 14, none⟩ .returning _ ((hd.drew.blk.cell 14).trans (get14 hsz _)) (hd.drew.blk.free 14)).mono ?_
  rintro e u' w'' ⟨rfl, rfl, rfl⟩
  refine ⟨_, results_tmp rfl _ _ _, cc, rfl, hd.drew.ex.set (.inl (by simp)) _ _, hat, hd.drew.own.setCell (a := ⟨c, 14, none⟩) hbs _, ?_⟩
  refine ⟨_, hd.drew.blk.set 14 _, by simp [hsz], ?_, by simp [hsz], ?_⟩
  · rw [get14_ne _ 13 (by decide), get14_ne _ 13 (by decide)]; exact d13
  · rw [get14_ne _ 16 (by decide), get14_ne _ 16 (by decide)]; exact d16

set_option maxHeartbeats 4000000 in
set_option maxRecDepth 100000 in
theorem get_new {H : Type} (c bm n : Nat) (D : DataW H) (t : ByteArray) (nx : Int) (w : World) (hcs : Cs w c bm nx) (hbs : bm ≠ c) (hown : Mp w bm n D) (hn : n < maxLen) (ht : t.size ≤ maxLen) (h0 : 0 ≤ nx) (h1 : nx + 1 < 4294967296) (hh : Maps.has D (kl t) = false) :
    Calls Try.prog 10 #[.pointer (some ⟨c, 12, none⟩), pathV t, .int .u8 0] w fun e w' => e = .returned (.int .u32 nx) ∧ Ex w [c, bm] w' ∧
      Mp w' bm (n + 1) (D.put (kl t) (.lit (.int .u32 nx))) ∧ Cs w' c bm (nx + 1) := by
  obtain ⟨dc, hb, hsz, d13, d14, d16⟩ := hcs
  have HL := fun o => lock_at (t := t) o hb hbs hown d14
  unfold pathV
  go_enter_defers Try.func10, Try.ntmps10
  go_wp2_with (go_at_call 11; refine (HL _).mono ?_; rintro e w1 ⟨rfl, hd⟩; have c13 := (hd.drew.blk.cell 13).trans ((get14_ne _ 13 (by decide)).trans d13); have c16 := (hd.drew.blk.cell 16).trans ((get14_ne _ 16 (by decide)).trans d16); have f16 := hd.drew.blk.free 16; have k0 := hd.drew.key.cell 0; have k1 := hd.drew.key.cell 1; have k2 := hd.drew.key.cell 2; have k3 := hd.drew.key.cell 3; have k4 := hd.drew.key.cell 4; have k5 := hd.drew.key.cell 5; simp at k0 k1 k2 k3 k4 k5; obtain ⟨cc, hat, hlk⟩ := look_at hd.drew.own ht; rw [hh] at hlk)
  go_region
  go_wp2
  have hx : Ex w [c, bm] (w1.setCell ⟨c, 16, none⟩ (.int .u32 (nx + 1))).drew.drew := (hd.ex.set (.inl (by simp)) _ _).drew.drew
  have hb2 : Blk (w1.setCell ⟨c, 16, none⟩ (.int .u32 (nx + 1))).drew.drew c 133 _ := (hd.blk.set 16 (.int .u32 (nx + 1)))
  have hk2 : Blk (w1.setCell ⟨c, 16, none⟩ (.int .u32 (nx + 1))).drew.drew (w.heap.size + 1) 136 _ := blk_set_ne hd.key (by have := hb.lt; omega) _ _ _
  have ho2 : Mp (w1.setCell ⟨c, 16, none⟩ (.int .u32 (nx + 1))).drew.drew bm n D := hd.own.setCell (a := ⟨c, 16, none⟩) hbs _
  have q13 := (hb2.cell 13).trans ((Array.getElem?_setIfInBounds_ne (by decide)).trans ((get14_ne _ 13 (by decide)).trans d13))
  have m0 := hk2.cell 0
  have m1 := hk2.cell 1
  have m2 := hk2.cell 2
  have m3 := hk2.cell 3
  have m4 := hk2.cell 4
  have m5 := hk2.cell 5
  simp at m0 m1 m2 m3 m4 m5 q13
  obtain ⟨w3, hup, ho3, hg3⟩ := ho2.update keyed136 Try.underlying111 hn (keyOf_key t ht) (plainElem_int Try.underlying26 (a := nx) (u32_wf h0 (by omega)))
  unfold keyV at hup
  go_region
  go_wp2
  have hb3 : Blk w3 c 133 _ := hb2.gb hg3 (fun e => hbs (Option.some.inj e).symm)
  have hx3 : Ex w [c, bm] w3 := hx.gb hg3 (fun k e => by cases e; exact .inl (by simp))
  refine leaves_cons (f := 12) (args := #[.pointer (some ⟨c, 14, none⟩)]) (by simp) (by simp [go_sem]) ?_
  refine (unlock_deferred Try.muLib ⟨c, 14, none⟩ .returning _ ((hb3.cell 14).trans ((Array.getElem?_setIfInBounds_ne (by decide)).trans (get14 hsz _))) (hb3.free 14)).mono ?_
  rintro e u' w'' ⟨rfl, rfl, rfl⟩
  refine ⟨_, results_tmp rfl _ _ _, rfl, hx3.set (.inl (by simp)) _ _, ho3.setCell (a := ⟨c, 14, none⟩) hbs _, ?_⟩
  refine ⟨_, hb3.set 14 _, by simp [hsz], ?_, by simp [hsz], ?_⟩
  · rw [get14_ne _ 13 (by decide), Array.getElem?_setIfInBounds_ne (by decide), get14_ne _ 13 (by decide)]; exact d13
  · rw [get14_ne _ 16 (by decide)]; simp [hsz]
end Go.Proofs.Ytfhhjahaolgoaaa
