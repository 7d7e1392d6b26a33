/-
  printSymbol. No statement of the seat is proved here.
-/
import Derived.Test.YtmfhoeihdikklaaFmtZb
import Derived.Deep.CutBlock
import Derived.Deep.DeepCutAuto
import Derived.Deep.RegionHeld3
namespace Go.Proofs.YtmfhoeihdikklaaFmt
open Go.Maps Go.RowKit
set_option linter.unusedVariables false
set_option linter.unusedSimpArgs false

theorem tabs_gb {w w' : World} {r : Option Nat} (h : Lib.Utf8Tabs 1 2 w) (hg : w.grownBy w' r) (h1 : some 1 ≠ r) (h2 : some 2 ≠ r) : Lib.Utf8Tabs 1 2 w' := by
  have l := tabs_lt h
  have e1 := hg.block 1 l.1 h1
  have e2 := hg.block 2 l.2 h2
  exact ⟨fun c hc => (World.cell?_of_block (w := w) e1).trans (h.1 c hc), fun i hi => ⟨(World.cell?_of_block (w := w) e2).trans (h.2 i hi).1, (World.cell?_of_block (w := w) e2).trans (h.2 i hi).2⟩⟩
/-- the printer, its table, its map, the variables -/
structure Ps (w : World) (Z B p : Nat) (a : Bool) (M T S n l3 : Nat) (kc : Array Value) (root rk : Nat → Nat) (D : DataW Unit) (zs : List Int) (ao : Option Addr) (c : Nat) : Prop where
  blk : Blk w p 79 (prCells 0 false a (some M) (some ⟨T, 0, none⟩, 1) (.slice ao zs.length c) 0 0)
  own : Own .u8 5 w B (.slice ao zs.length c) zs
  ne : (Value.slice ao zs.length c).ownBlock ≠ some p
  ownlt : ∀ g, (Value.slice ao zs.length c).ownBlock = some g → g < Z ∧ g ≠ S
  sy : Sy w T S 1 n kc root rk
  mp : Mp w M l3 D
  iv : Iv w
  tb : Lib.Utf8Tabs 1 2 w
  lt : p < Z ∧ T < Z ∧ S < Z ∧ M < Z ∧ 2 < Z ∧ p ≠ S ∧ T ≠ S ∧ M ≠ S ∧ 2 < S ∧ B ≤ p ∧ B ≤ S ∧ B ≤ Z
section
variable {w w' : World} {Z B p : Nat} {a : Bool} {M T S n l3 : Nat} {kc : Array Value} {root rk : Nat → Nat} {D : DataW Unit} {zs : List Int} {ao : Option Addr} {c : Nat}
theorem Ps.gb (h : Ps w Z B p a M T S n l3 kc root rk D zs ao c) {r : Option Nat} (hg : w.grownBy w' r) (hr : ∀ g, r = some g → Z ≤ g) : Ps w' Z B p a M T S n l3 kc root rk D zs ao c := by
  have l := h.lt
  have q : ∀ {b : Nat}, b < Z → some b ≠ r := fun hb e => by have := hr _ e.symm; omega
  refine ⟨h.blk.gb hg (q l.1), h.own.gb hg ?_, h.ne, h.ownlt, h.sy.gb hg (q l.2.1) (q l.2.2.1), h.mp.kept hg (q l.2.2.2.1), h.iv.gb hg (q (by omega)), tabs_gb h.tb hg (q (by omega)) (q (by omega)), h.lt⟩
  by_cases e : (Value.slice ao zs.length c).ownBlock = none
  · exact .inl e
  · refine .inr (fun e2 => ?_)
    obtain ⟨g, hgg⟩ : ∃ g, (Value.slice ao zs.length c).ownBlock = some g := by cases hv : (Value.slice ao zs.length c).ownBlock with | none => exact absurd hv e | some g => exact ⟨g, rfl⟩
    have := (h.ownlt g hgg).1
    have := hr g (by rw [← e2, hgg])
    omega
theorem Ps.grow (h : Ps w Z B p a M T S n l3 kc root rk D zs ao c) (hg : w.grownBy w' none) : Ps w' Z B p a M T S n l3 kc root rk D zs ao c := h.gb hg (fun g e => by cases e)
theorem Ps.follow (h : Ps w Z B p a M T S n l3 kc root rk D zs ao c) (hs : Sy w' T S 1 n kc root rk) (hg : w.grownBy w' (some S)) : Ps w' Z B p a M T S n l3 kc root rk D zs ao c := by
  have l := h.lt
  have q : ∀ {b : Nat}, b ≠ S → some b ≠ some S := fun hb e => hb (Option.some.inj e)
  refine ⟨h.blk.gb hg (q l.2.2.2.2.2.1), h.own.gb hg ?_, h.ne, h.ownlt, hs, h.mp.kept hg (q l.2.2.2.2.2.2.2.1), h.iv.gb hg (q (by omega)), tabs_gb h.tb hg (q (by omega)) (q (by omega)), h.lt⟩
  refine .inr (fun e => ?_)
  exact (h.ownlt S e).2 rfl
theorem Ps.pr (h : Ps w Z B p a M T S n l3 kc root rk D zs ao c) : Pr w B p 0 false a (some M) (some ⟨T, 0, none⟩, 1) zs 0 0 := ⟨ao, c, h.blk, h.own, h.ne, h.lt.2.2.2.2.2.2.2.2.2.1⟩
end
theorem Sy.cell {w : World} {T S tl n : Nat} {ks : Array Value} {root rk : Nat → Nat} (h : Sy w T S tl n ks root rk) {j : Nat} (h2 : j % 10 ≠ 2) (h3 : j % 10 ≠ 3) : w.cell? ⟨S, j, none⟩ = ks[j]? := by
  obtain ⟨ts, cs, q1, q2, q3, q4, q5, q6, q7, q8⟩ := h.out
  rw [q5.cell, q7 _ h2 h3]
theorem psc9 (l : Int) (m a : Bool) (lnv : Option Nat) (syv : Option Addr × Nat) (ao : Option Addr) (n c : Nat) (s e : Int) : (prCells l m a lnv syv (.slice ao n c) s e)[9]? = some (.bool false) := by kernel_rfl
set_option maxHeartbeats 4000000 in
set_option maxRecDepth 100000 in
theorem ps_any (Z B p : Nat) (a : Bool) (M T S n l3 : Nat) (kc : Array Value) (root rk : Nat → Nat) (D : DataW Unit) (zs : List Int) (ao : Option Addr) (c : Nat) (ts vs : List ByteArray) (ks : List Int) (r q : Nat) (ws : Int) (res : ByteArray)
    (hH : ∀ j, j < n → root j < n ∧ rk (root j) ≤ rk j ∧ root (root j) = root j) (hrq : root r = q) (hrn : r < n) (hn : n ≤ 65536) (hL : Lm D ks vs l3) (hnames : ∀ i, i < n → kc[i * 10 + 1]? = some (.string (tth ts i)))
    (hres : res = match lastJ ks q l3 with | some j => tth vs j | none => tth ts q) (hsz : res.size ≤ 1048576) (hzl : zs.length ≤ 1048576) (hnh : NH res a)
    (w : World) (hZ : w.heap.size = Z) (h : Ps w Z B p a M T S n l3 kc root rk D zs ao c) :
    Calls Tryf.prog 20 #[.pointer (some ⟨p, 0, none⟩), .agg #[.int .i32 0], .agg #[.int .u32 0, .int .u32 (r : Int)], .int .u8 0, .int .u8 ws] w fun e w' => e = .returned (.tuple #[]) ∧ Pr w' B p 0 false a (some M) (some ⟨T, 0, none⟩, 1) (zs ++ out res) 0 0 ∧ Below B w w' := by
  obtain ⟨w1, hw1⟩ : ∃ w1, (w.alloc (.cells #[.int .i32 0] 75)).alloc (.cells #[.int .u32 0, .int .u32 (r : Int)] 47) = w1 := ⟨_, rfl⟩
  have g1' : w.grownBy w1 none := by rw [← hw1]; exact gb_alloc (gb_alloc (gb_refl _ _) _) _
  have hb1 : Blk w1 (Z + 1) 47 #[.int .u32 0, .int .u32 (r : Int)] := by
    rw [← hw1]
    have := Blk.new (w.alloc (.cells #[.int .i32 0] 75)) 47 #[.int .u32 0, .int .u32 (r : Int)]
    have e : (w.alloc (.cells #[.int .i32 0] 75)).heap.size = Z + 1 := by simp [hZ]
    rw [e] at this
    exact this
  have hqn : q < n := by have := (hH r hrn).1; omega
  have ha1 := h.grow g1'
  have l := h.lt
  have HF := Lib.hid (fol_any T S 1 1 n kc root rk (Ne.symm l.2.2.2.2.2.2.1) (by have := h.sy.out; obtain ⟨ts', cs', z1, z2, z3, z4, z5, z6⟩ := this; intro e; subst e; have := h.iv.1; have h2 := z1.cell 0; rw [this] at h2; rw [← h2] at z3; cases z3) (by omega) hH (rk r + 1) r w1.drew (by omega) hrn ha1.sy.drew ha1.iv.drew)
  rw [hrq] at HF
  have r13 : w1.drew.cell? ⟨p, 13, none⟩ = some (.slice (some ⟨T, 0, none⟩) 1 1) := (ha1.blk.cell 13).trans (pr13 _ _ _ _ _ _ _ _ _ _)
  have x0 : w1.drew.cell? ⟨Z + 1, 0, none⟩ = some (.int .u32 0) := hb1.cell 0
  have x1 : w1.drew.cell? ⟨Z + 1, 1, none⟩ = some (.int .u32 (r : Int)) := hb1.cell 1
  have hla := hb1.lt
  have hlr := ha1.blk.lt
  have HW := Lib.hid (And.intro ha1 (And.intro hb1 g1'))
  have HK := Lib.hid (And.intro hL (And.intro hnames (And.intro hres (And.intro hsz (And.intro hzl hnh)))))
  have HLT := Lib.hid l
  clear ha1 hb1 g1' h hL hnames hres hsz hzl hnh l hH
  go_enter Tryf.func20, Tryf.ntmps20
  go_upto_region 1 with fail
  clear hw1
  go_cut [] (fun wc => Ps wc Z B p a M T S n l3 kc root rk D zs ao c ∧ Blk wc (Z + 1) 47 #[.int .u32 0, .int .u32 (q : Int)] ∧ w.grownBy wc (some S))
  case first =>
    go_region_with (go_at_call 22; refine HF.out.mono ?_; rintro e w6 ⟨rfl, hs6, hg6⟩; have hb6 := HW.out.2.1.gb (gb_und hg6) (fun e => by have := HLT.out; have := Option.some.inj e; omega); have z0 := hb6.cell 0; have z1 := hb6.cell 1; have y0 := hb6.free 0; have hl6 := hb6.lt; have z2 := (hb6.set 0 (.int .u32 0)).cell 1; have y2 := (hb6.set 0 (.int .u32 0)).free 1; have H6 := Lib.hid (And.intro (HW.out.1.follow hs6 (gb_und hg6)) (And.intro (gb_und hg6) hb6)); clear hs6 hg6 hb6)
    all_goals go_wp2_with fail
    all_goals go_meet
    all_goals
      have hg7 : w6.grownBy ((w6.setCell ⟨Z + 1, 0, none⟩ (.int .u32 0)).setCell ⟨Z + 1, 1, none⟩ (.int .u32 (q : Int))) (some (Z + 1)) := gb_set (gb_set (gb_refl _ _) _ _ _) _ _ _
      exact ⟨H6.out.1.gb hg7 (fun g e => by have := Option.some.inj e; omega), (H6.out.2.2.set 0 _).set 1 _, gb_past (gb_trans (gb_none HW.out.2.2) H6.out.2.1) hg7 (by omega)⟩
  case rest =>
    obtain ⟨ha2, hb2, hg2⟩ := hcut
    have r13 : wc.drew.cell? ⟨p, 13, none⟩ = some (.slice (some ⟨T, 0, none⟩) 1 1) := (ha2.blk.cell 13).trans (pr13 _ _ _ _ _ _ _ _ _ _)
    have x0 : wc.drew.cell? ⟨Z + 1, 0, none⟩ = some (.int .u32 0) := hb2.cell 0
    have x1 : wc.drew.cell? ⟨Z + 1, 1, none⟩ = some (.int .u32 (q : Int)) := hb2.cell 1
    have HG := Lib.hid (get_any T S 1 1 n kc root rk q wc.drew ha2.sy.drew hqn)
    have nm : wc.drew.cell? ⟨S, q * 10 + 1, none⟩ = some (.string (tth ts q)) := (ha2.sy.cell (j := q * 10 + 1) (by omega) (by omega)).trans (HK.out.2.1 q hqn)
    obtain ⟨t0, ht0⟩ : ∃ t0, tth ts q = t0 := ⟨_, rfl⟩
    rw [ht0] at nm
    have HW2 := Lib.hid (And.intro ha2 (And.intro hb2 (And.intro hg2 ht0)))
    clear ha2 hb2 hg2 ht0 HF HW
    go_upto_region 2 with fail
    go_region_held3 (fun w' => w'.cell? ⟨p, 13, none⟩ = some (.slice (some ⟨T, 0, none⟩) 1 1) ∧ w'.cell? ⟨Z + 1, 0, none⟩ = some (.int .u32 0) ∧ w'.cell? ⟨Z + 1, 1, none⟩ = some (.int .u32 (q : Int)) ∧ w'.cell? ⟨S, q * 10 + 1, none⟩ = some (.string t0)) (first | (go_keep; done) | exact ⟨(HA2.out.1.blk.cell 13).trans (pr13 _ _ _ _ _ _ _ _ _ _), HA2.out.2.1.cell 0, HA2.out.2.1.cell 1, (HA2.out.1.sy.cell (j := q * 10 + 1) (by omega) (by omega)).trans (by rw [← HW2.out.2.2.2]; exact HK.out.2.1 q hqn)⟩)
        (first | (go_at_call 23; refine HG.out.mono ?_; rintro e w2 ⟨rfl, hg2⟩; have HA2 := Lib.hid (And.intro (HW2.out.1.grow (gb_und hg2)) (And.intro (HW2.out.2.1.gb (gb_und hg2) (by simp)) (gb_trans HW2.out.2.2.1 (gb_none (gb_und hg2))))); clear hg2))
    clear r13 x0 x1 HG
    have s2 : w2.drew.cell? ⟨p, 2, none⟩ = some (.map (some M)) := (HA2.out.1.blk.cell 2).trans (pr2 _ _ _ _ _ _ _ _ _ _)
    have y0 : w2.drew.cell? ⟨Z + 1, 0, none⟩ = some (.int .u32 0) := HA2.out.2.1.cell 0
    have y1 : w2.drew.cell? ⟨Z + 1, 1, none⟩ = some (.int .u32 (q : Int)) := HA2.out.2.1.cell 1
    have hl2 : p < w2.heap.size := HA2.out.1.blk.lt
    obtain ⟨s, hs1, hlook⟩ := look_at (i := l3) (t := q) (show Mp w2.drew M l3 D from HA2.out.1.mp.kept (gb_drew (gb_refl _ (none : Option Nat))) (by simp)) HK.out.1 (by omega)
    obtain ⟨ok, hok⟩ : ∃ ok, (lastJ ks q l3).isSome = ok := ⟨_, rfl⟩
    rw [hok] at hlook
    have HS := Lib.hid (And.intro hs1 hok)
    clear hs1 hok
    go_upto_region 3 with fail
    go_region
    all_goals
      clear hlook s2 y0 y1
      have s9 : w2.drew.cell? ⟨p, 9, none⟩ = some (.bool false) := (HA2.out.1.blk.cell 9).trans (psc9 _ _ _ _ _ _ _ _ _ _)
      have HP := Lib.hid (pi_any B p 0 false a (some M) (some ⟨T, 0, none⟩, 1) zs 0 0 res ws w2.drew (HA2.out.1.grow (gb_drew (gb_refl _ _))).pr (by have := HLT.out; have := HA2.out.2.2.size; simp; omega) HK.out.2.2.2.1 (by have := HK.out.2.2.2.2.1; omega) (HA2.out.1.grow (gb_drew (gb_refl _ _))).tb HK.out.2.2.2.2.2)
      cases ok with
      | true =>
        have hr : s = res := by
          rw [HK.out.2.2.1]
          have h := HS.out.2
          cases hj : lastJ ks q l3 with
          | none => rw [hj] at h; cases h
          | some j => exact HS.out.1 j hj
        subst hr
        go_wp2_with (go_at_call 21; refine HP.out.mono ?_; rintro e w4 ⟨rfl, hp4, hb4⟩; have H4 := Lib.hid (And.intro hp4 hb4); clear hp4 hb4)
        go_end0
        exact ⟨rfl, H4.out.1, ((Below.refl B w).grown (gb_trans HA2.out.2.2 (gb_drew (gb_refl _ _))) (by have := HLT.out; omega) (fun k hk => by have := Option.some.inj hk; have := HLT.out; omega)).trans H4.out.2⟩
      | false =>
        have hr : t0 = res := by
          rw [HK.out.2.2.1, ← HW2.out.2.2.2]
          have h := HS.out.2
          cases hj : lastJ ks q l3 with
          | none => rfl
          | some j => rw [hj] at h; cases h
        subst hr
        go_wp2_with (go_at_call 21; refine HP.out.mono ?_; rintro e w4 ⟨rfl, hp4, hb4⟩; have H4 := Lib.hid (And.intro hp4 hb4); clear hp4 hb4)
        go_end0
        exact ⟨rfl, H4.out.1, ((Below.refl B w).grown (gb_trans HA2.out.2.2 (gb_drew (gb_refl _ _))) (by have := HLT.out; omega) (fun k hk => by have := Option.some.inj hk; have := HLT.out; omega)).trans H4.out.2⟩
end Go.Proofs.YtmfhoeihdikklaaFmt
