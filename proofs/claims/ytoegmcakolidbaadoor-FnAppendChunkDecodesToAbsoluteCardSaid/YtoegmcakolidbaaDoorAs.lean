/-
  AppendSourceMapChunk: what it adds to the joiner. No statement of the seat is proved here.
-/
import Derived.Test.YtoegmcakolidbaaDoorAm
import Derived.Test.YtoegmcakolidbaaDoorShelf
import Derived.Test.YtoegmcakolidbaaDoorSo
import Derived.Test.YtoegmcakolidbaaDoorBc
import Derived.Deep.CutBlock
import Derived.Deep.DeepCutAuto
import Derived.Deep.LoopGhost
import Derived.Deep.Light
namespace Go.Proofs.YtoegmcakolidbaaDoor
open Go.RowKit
set_option linter.unusedVariables false
theorem sep_index : ∀ d : Nat, d < 64 → Lib.indexByte [44, 59] ((b64at d : Nat) : Int).toNat.toUInt8 = -1 := by decide +kernel
theorem enc_first (z : Int) : ∃ d, d < 64 ∧ nth (enc z) 0 = ((b64at d : Nat) : Int) := by
  have h := (enc_len z).1
  have hm := nth_mem (enc z) 0 h
  unfold enc at hm ⊢
  simp only [List.mem_map] at hm
  obtain ⟨d, hd, he⟩ := hm
  exact ⟨d, dgs_lt _ _ d hd, he.symm⟩
theorem numAt_of {zs X R : List Int} {z : Int} (h : zs = X ++ (enc z ++ R)) (p : Nat) (hp : p = X.length) : NumAt zs p z := by
  subst h; subst hp
  intro j hj
  refine ⟨by simp; omega, ?_⟩
  rw [nth_app_right, nth_app_left _ _ _ hj]
theorem Tab.mono {w : World} {B B' : Nat} (h : Tab w B) (hb : B ≤ B') : Tab w B' := by
  obtain ⟨h0, R, o, c, hR, h1, h2⟩ := h
  exact ⟨by omega, R, o, c, by omega, h1, h2⟩
theorem Tab.later {w w' : World} {B C : Nat} (h : Tab w B) (hb : Below C w w') (hC : B ≤ C) (h2 : C ≤ w.heap.size) : Tab w' w'.heap.size :=
  (h.below (hb.mono hC)).mono (by have := hb.size; omega)
def FoOk (m : Nat) : Option (List Int × Int × List Int) → Int → Prop
  | none, fo => fo = 0
  | some (mid, e, _), fo => fo = ((4294967295 - (m + mid.length) : Nat) : Int) ∧ P12 e
def IsAs (j : Nat) (v : Value) (xss : List (List Int)) (lb : Int) (p s : St) (L q : Nat) (a b c d : Int) (Y : List Int) (nm : Option (List Int × Int × List Int)) (w : World) (e : Ending) (w' : World) : Prop :=
  ∃ (v' : Value) (ts' : List Pc) (yss : List (List Int)) (lb' : Int), e = .returned (.tuple #[]) ∧ Jc w' j v' ts' yss lb' ∧ Fr w j v w' v' ∧ 2 + xss.length ≤ yss.length ∧ yss.length ≤ xss.length + 6 ∧
    yss.flatten = xss.flatten ++ (List.replicate L 59 ++ (List.replicate q 59 ++ (cmq (if q = 0 then (if L = 0 then lb else 59) else 59) ++
      (encs ((if q = 0 then s.gc + a else a) - (if L = 0 ∧ q = 0 then p.gc else 0)) (s.si + b - p.si) (s.ol + c - p.ol) (s.oc + d - p.oc) ++ tailY (s.on - p.on) Y nm))))
/-- behind the line breaks of the start -/
def C1 (w0 : World) (j : Nat) (v0 : Value) (B b bz oz n cap : Nat) (zs : List Int) (fo : Int) (pb : Bool) (xss : List (List Int)) (lb : Int) (p s : St) (L : Nat) (wc : World) : Prop :=
  ∃ (v : Value) (ts : List Pc) (yss : List (List Int)), Am w0 j v0 B b bz oz n cap zs fo pb wc v ts yss (if L = 0 then lb else 59) { p with gc := if L = 0 then p.gc else 0 } s ∧ xss.length ≤ yss.length ∧ yss.length ≤ xss.length + 1 ∧ yss.flatten = xss.flatten ++ List.replicate L 59
def C2 (w0 : World) (j : Nat) (v0 : Value) (B b bz oz n cap : Nat) (zs : List Int) (fo : Int) (pb : Bool) (xss : List (List Int)) (lb : Int) (p s : St) (L q : Nat) (wc : World) : Prop :=
  ∃ (v : Value) (ts : List Pc) (yss : List (List Int)), Am w0 j v0 B b bz oz n cap zs fo pb wc v ts yss (if q = 0 then (if L = 0 then lb else 59) else 59) { p with gc := if L = 0 ∧ q = 0 then p.gc else 0 } { s with gc := if q = 0 then s.gc else 0 } ∧ xss.length ≤ yss.length ∧ yss.length ≤ xss.length + 2 ∧ yss.flatten = xss.flatten ++ (List.replicate L 59 ++ List.replicate q 59)
/-- the rewritten mapping -/
def C3 (W : World) (M : List Int) (x : Value) (wx : World) : Prop := Own .u8 5 wx W.heap.size x M ∧ Below W.heap.size W wx
/-- what the region that writes the first mapping reads -/
def S6 (g j : Nat) (lb : Int) (p s : St) (w' : World) : Prop := Blk w' g 42 p.cells ∧ Blk w' (g + 1) 42 s.cells ∧ w'.cell? ⟨j, 3, none⟩ = some (.int .u8 lb) ∧ j < w'.heap.size
theorem S6.kept {g j : Nat} {lb : Int} {p s : St} {w w' : World} (h : S6 g j lb p s w) (hb : Below w.heap.size w w') : S6 g j lb p s w' :=
  ⟨h.1.kept hb, h.2.1.kept hb, (hb.cell (p := ⟨j, 3, none⟩) h.2.2.2).trans h.2.2.1, Nat.lt_of_lt_of_le h.2.2.2 hb.size⟩
theorem alloc45 : ∀ w : World, (Instr.alloc 45 true (.tuple #[])).run Tryd.prog w = .ok (.pointer (some ⟨w.heap.size, 0, none⟩)) (w.alloc (.cells #[.int .u32 0] 45)) := fun w => by kernel_rfl
theorem S6.gb6 {g j : Nat} {lb : Int} {p s : St} {w w' : World} {x : Nat} (h : S6 g j lb p s w) (hg : w.grownBy w' (some x)) (hx : g + 1 < x ∧ j < x) : S6 g j lb p s w' :=
  ⟨h.1.gb hg (fun e => by cases e; omega), h.2.1.gb hg (fun e => by cases e; omega), (World.cell?_of_block (hg.block j h.2.2.2 (fun e => by cases e; omega))).trans h.2.2.1, Nat.lt_of_lt_of_le h.2.2.2 hg.size⟩
theorem c3_a {W w7 w9 : World} {M : List Int} {v' : Value} {o : Obj} (ho : Own .u8 5 w7 W.drew.heap.size v' M) (hb : Below W.drew.heap.size W.drew w7) (hg : (w7.alloc o).grownBy w9 (some w7.heap.size)) : C3 W M v' w9 := by
  have hs := hb.size
  refine ⟨(ho.alloc o).gb hg ?_, (Below.refl _ W).drew.trans (below_gb (hb.alloc hs o) hg (by simp; exact Nat.le_succ_of_le hs) hs)⟩
  rcases hx : v'.ownBlock with _ | x
  · exact .inl rfl
  · exact .inr (fun e => by cases e; have := (ho.lt _ hx).2; omega)
theorem c3_b {W w7 w9 : World} {M : List Int} {v' : Value} {o : Obj} (ho : Own .u8 5 w7 (W.drew.alloc o).heap.size v' M) (hb : Below (W.drew.alloc o).heap.size (W.drew.alloc o) w7) (hg : w7.grownBy w9 (some W.drew.heap.size)) : C3 W M v' w9 := by
  have hs := hb.size
  simp at hs
  have hq : Below W.heap.size W w7 := ((Below.refl _ W).drew.alloc (Nat.le_refl _) o).trans (hb.mono (by simp))
  refine ⟨(ho.mono (by simp)).gb hg ?_, below_gb hq hg (by omega) (Nat.le_refl _)⟩
  rcases hx : v'.ownBlock with _ | x
  · exact .inl rfl
  · exact .inr (fun e => by cases e; have := (ho.lt _ hx).1; simp at this; omega)
theorem lastB_rep (lb : Int) (q : Nat) (h : q ≠ 0) : lastB lb (List.replicate q 59) = 59 := by
  unfold lastB
  rw [List.length_replicate, if_neg h]
  simp [nth, show q - 1 < q by omega]
theorem one45 : (#[Value.int .u32 0]).all (·.oneCell') = true := by simp [Value.oneCell']
/-- the region's last operation is a store over a block -/
theorem wpAnyH_last_store {P : Program} {md : Region.Mode} {ops : Array Oper} {Q : Exit → Act → World → Prop} {S : World → Prop} {fuel : Nat} {listed : Array Bool} {a : Act} {w : World} (i : Nat) (o : Oper) (hr : Region.ready md ops listed = [i]) (hr2 : Region.ready md ops (listed.setIfInBounds i true) = []) (ho : ops[i]? = some o)
    (hw : Region.wanted o (yielded ops a.tmps) = true) (t : TypeId) (x y : Operand) (hop : o.op = .store t x y) (b : Nat) (old cells : Array Value) (hb : Blk w b t old) (hx : a.eval x = .pointer (some ⟨b, 0, none⟩)) (hy : a.eval y = .agg cells) (hold : old.size = cells.size)
    (hi : (P.info? t).map (·.size) = some cells.size) (h1 : cells.all (·.oneCell') = true)
    (h : ∀ w', Blk w' b t cells → w.grownBy w' (some b) → S w' ∧ Q .normal (a.put o.dst undef) w') : wpAnyH P md ops Q S (fuel + 1) listed a w :=
  wpAnyH_ready hr (by simp) (AllReadyH.cons ho (fun K hK => step_store_blk hw t x y hop b old cells hb hx hy hold hi h1 (fun w' k1 k2 => hK.out _ _ (h w' k1 k2).1 (fun _ => wpAnyH_done hr2 (h w' k1 k2).2 _))) AllReadyH.nil)
theorem In.tail {k : IntKind} {w : World} {bz oz n cap p : Nat} {zs X Y : List Int} (h : In k w (some ⟨bz, oz, none⟩) zs) (hz : zs = X ++ Y) (hp : p = X.length) (hn : zs.length = n) (hc : n ≤ cap) :
    In k w (if cap = p then some ⟨bz, oz, none⟩ else some ⟨bz, oz + p, none⟩) Y := by
  split
  · refine .inl (List.eq_nil_of_length_eq_zero ?_)
    rw [hz, List.length_append] at hn
    omega
  · exact h.sub (Z := []) (by rw [List.append_nil]; exact hz) _ (fun _ => by rw [hp])
theorem if_addr {c : Prop} [Decidable c] {bz o1 o2 x o : Nat} (e : (if c then some (⟨bz, o1, none⟩ : Addr) else some ⟨bz, o2, none⟩) = some ⟨x, o, none⟩) : x = bz := by
  split at e
  · cases e; rfl
  · cases e; rfl
theorem as_fin_no {w w' : World} {j : Nat} {v v' : Value} {B b0 bz oz n cap : Nat} {zs : List Int} {fo : Int} {ts : List Pc} {xss zss : List (List Int)} {M Y : List Int} {lb lb2 lb3 : Int} {p s p' s' : St} {L q : Nat} {a b c d G Q : Int}
    (hA : Am w j v B b0 bz oz n cap zs fo false w' v' ts (zss ++ [M] ++ [Y]) lb3 p' s') (hF : xss.length ≤ zss.length ∧ zss.length ≤ xss.length + 2 ∧ zss.flatten = xss.flatten ++ (List.replicate L 59 ++ List.replicate q 59))
    (hM : cmq lb2 ++ encs (G + a - Q) (s.si + b - p.si) (s.ol + c - p.ol) (s.oc + d - p.oc) = M)
    (hG : (if q = 0 then s.gc else 0) = G ∧ (if L = 0 ∧ q = 0 then p.gc else 0) = Q ∧ (if q = 0 then (if L = 0 then lb else 59) else 59) = lb2) :
    IsAs j v xss lb p s L q a b c d Y none w (.returned (.tuple #[])) w' := by
  obtain ⟨h1, h2, h3⟩ := hF
  obtain ⟨g1, g2, g3⟩ := hG
  refine ⟨v', ts, _, lb3, rfl, hA.jc, hA.fr, by simp; omega, by simp; omega, ?_⟩
  have hga : (if q = 0 then s.gc + a else a) = G + a := by rw [← g1]; split <;> simp
  rw [hga, g2, g3]
  simp only [List.flatten_append, List.flatten_cons, List.flatten_nil, List.append_nil]
  rw [h3, ← hM]
  simp only [tailY, List.append_assoc]
theorem as_fin_yes {w w' : World} {j : Nat} {v v' : Value} {B b0 bz oz n cap : Nat} {zs : List Int} {fo : Int} {ts : List Pc} {xss zss : List (List Int)} {M Y mid Y2 : List Int} {eo : Int} {lb lb2 lb3 : Int} {p s p' s' : St} {L q : Nat} {a b c d G Q : Int}
    (hA : Am w j v B b0 bz oz n cap zs fo false w' v' ts (zss ++ [M] ++ [mid] ++ [enc (eo + (s.on - p.on))] ++ [Y2]) lb3 p' s') (hF : xss.length ≤ zss.length ∧ zss.length ≤ xss.length + 2 ∧ zss.flatten = xss.flatten ++ (List.replicate L 59 ++ List.replicate q 59))
    (hM : cmq lb2 ++ encs (G + a - Q) (s.si + b - p.si) (s.ol + c - p.ol) (s.oc + d - p.oc) = M)
    (hG : (if q = 0 then s.gc else 0) = G ∧ (if L = 0 ∧ q = 0 then p.gc else 0) = Q ∧ (if q = 0 then (if L = 0 then lb else 59) else 59) = lb2) :
    IsAs j v xss lb p s L q a b c d Y (some (mid, eo, Y2)) w (.returned (.tuple #[])) w' := by
  obtain ⟨h1, h2, h3⟩ := hF
  obtain ⟨g1, g2, g3⟩ := hG
  refine ⟨v', ts, _, lb3, rfl, hA.jc, hA.fr, by simp; omega, by simp; omega, ?_⟩
  have hga : (if q = 0 then s.gc + a else a) = G + a := by rw [← g1]; split <;> simp
  rw [hga, g2, g3]
  simp only [List.flatten_append, List.flatten_cons, List.flatten_nil, List.append_nil]
  rw [h3, ← hM]
  simp only [tailY, List.append_assoc]
set_option maxRecDepth 100000 in
set_option maxHeartbeats 20000000 in
theorem as_any (pb : Bool) (j : Nat) (v : Value) (ts : List Pc) (xss : List (List Int)) (lb : Int) (p s : St) (L q : Nat) (a b c d : Int) (Y : List Int) (nm : Option (List Int × Int × List Int)) (bz oz n cap B : Nat) (zs : List Int) (fo : Int) (w : World)
    (hJ : Jc w j v ts xss lb) (ht : Tab w B) (hBj : B ≤ j) (hn : zs.length = n) (hin : In .u8 w (some ⟨bz, oz, none⟩) zs) (hcap : n ≤ cap) (hbz : bz < w.heap.size) (h1 : bz ≠ j) (h2 : v.ownBlock ≠ some bz)
    (hzs : zs = List.replicate q 59 ++ (encs a b c d ++ Y)) (hL : s.gl = L) (hL2 : L ≤ 4096) (hn2 : n ≤ 4000000) (hx1 : xss.flatten.length ≤ 1048576) (hx2 : xss.length ≤ 900)
    (hfo : FoOk (q + (encs a b c d).length) nm fo)
    (hcut : Cut Y nm) (ha : P12 a) (hb : P12 b) (hc : P12 c) (hd : P12 d) (hp : OkS p) (hs : OkS s) :
    Calls Tryd.prog 11 #[.pointer (some ⟨j, 0, none⟩), .agg (sCells p pb), .agg (sCells s false), .agg #[.slice (some ⟨bz, oz, none⟩) n cap, .int .u32 fo]] w (IsAs j v xss lb p s L q a b c d Y nm w) := by
  have HA0 := Lib.hid (Am.start (fb := pb) (p := p) (s := s) (n := n) (cap := cap) (fo := fo) hJ ht hBj hin hbz h1 h2)
  have HX := Lib.hid (And.intro hn (And.intro hzs (And.intro hfo hcut)))
  obtain ⟨pgl, pgc, psi, pol, poc, pon⟩ := p
  obtain ⟨sgl, sgc, ssi, sol, soc, son⟩ := s
  simp only [OkS, B24, P12] at hp hs ha hb hc hd
  subst hL
  have HB := Lib.hid (And.intro hp (And.intro hs (And.intro ha (And.intro hb (And.intro hc hd)))))
  have HXX := Lib.hid (And.intro hx1 hx2)
  simp only [sCells, St.cells] at HA0 ⊢
  clear hJ ht hin hzs hfo hcut hp hs ha hb hc hd hn
  go_enter Tryd.func11, Tryd.ntmps11
  go_upto_region 1 with fail
  obtain ⟨W, hW⟩ : ∃ W, (((w.alloc (.cells #[.int .i64 pgl, .int .i64 pgc, .int .i64 psi, .int .i64 pol, .int .i64 poc, .int .i64 pon, .bool pb] 42)).alloc (.cells #[.int .i64 L, .int .i64 sgc, .int .i64 ssi, .int .i64 sol, .int .i64 soc, .int .i64 son, .bool false] 42)).alloc (.cells #[.slice (some ⟨bz, oz, none⟩) n cap, .int .u32 fo] 47)) = W := ⟨_, rfl⟩
  obtain ⟨g, hg⟩ : ∃ g, w.heap.size = g := ⟨_, rfl⟩
  have HA : Hid (Am w j v B g bz oz n cap zs fo pb W v ts xss lb ⟨pgl, pgc, psi, pol, poc, pon⟩ ⟨L, sgc, ssi, sol, soc, son⟩) := Lib.hid (by rw [← hW, ← hg]; exact HA0.out)
  rw [hW, hg]
  clear hW HA0 hg hbz
  have b0 := HA.out.bs.cell 0
  simp [St.cells] at b0
  go_upto_if 22 with fail
  go_cut [] (fun wc => C1 w j v B g bz oz n cap zs fo pb xss lb ⟨pgl, pgc, psi, pol, poc, pon⟩ ⟨L, sgc, ssi, sol, soc, son⟩ L wc)
  case first =>
    rcases (show L = 0 ∨ L ≠ 0 by omega) with rfl | hL0
    · go_wp2_with fail
      go_meet
      exact ⟨v, ts, xss, HA.out, Nat.le_refl _, by omega, by simp⟩
    · have e0 : ((L : Int) == 0) = false := beq_eq_false_iff_ne.2 (by omega)
      have e1 : ((L : Int) != 0) = true := bne_iff_ne.2 (by omega)
      have b1 := (HA.out.alloc (.cells #[.int .u8 59] 5)).bs.cell 0
      simp [St.cells] at b1
      go_upto_region 3 with (first | (go_at_call 18; refine (rp_any _ _ L _ (by first | rfl | exact (Blk.new W 5 #[.int .u8 59]).cell 0) (by omega) hL2).mono ?_; rintro e w1 ⟨x, rfl, hx, hi, hbel⟩; have HI := Lib.hid (And.intro hx hi); have HA1 := Lib.hid ((HA.out.alloc _).below hbel); clear hx hi hbel) | (go_at_call 10; refine (HA1.out.add _ _ _ (List.replicate L 59) (by simp) HI.out.2 (fun _ x o e => by cases e; exact (HA.out.alloc (.cells #[.int .u8 59] 5)).fresh HI.out.1) (by omega) (by have := HXX.out; omega) (by have := HXX.out; omega)).mono ?_; rintro e w2 ⟨v2, ts2, rfl, hA2⟩; have q1 := hA2.bp.cell 1; have q2 := hA2.bp.free 1; simp [sCells] at q1; have HA2 := Lib.hid hA2; clear hA2))
      go_wp2_with fail
      go_meet
      have hq := HA2.out.putP1 0
      rw [lastB_rep _ _ hL0] at hq
      exact ⟨v2, ts2, xss ++ [List.replicate L 59], by rw [if_neg hL0, if_neg hL0]; exact hq, by simp, by simp, by simp⟩
  case rest =>
  obtain ⟨v1, ts1, yss, hA, hl1, hl2, hfl⟩ := hcut
  have HA1 := Lib.hid hA
  have HF := Lib.hid (And.intro hl1 (And.intro hl2 hfl))
  have c0 := hA.bb.cell 0
  simp at c0
  clear hA hl1 hl2 hfl HA b0
  have hqn : q < n := by
    have := HX.out.1
    rw [← this, HX.out.2.1]
    have := (encs_len a b c d).1
    simp; omega
  go_upto_region 5 with fail
  go_loopg [8] q (fun k x wr => ∃ i : Nat, x = .int .i64 i ∧ i ≤ q ∧ q - i ≤ k ∧ wr = wc)
  case atStart => exact ⟨0, rfl, Nat.zero_le _, Nat.le_refl _, rfl⟩
  case round =>
  obtain ⟨i, rfl, hiq, hk, rfl⟩ := hrel
  obtain ⟨z, hz⟩ : ∃ z, nth zs i = z := ⟨_, rfl⟩
  have hin : i < n := by omega
  have c1 : wr.cell? ⟨bz, oz + i, none⟩ = some (.int .u8 z) := by
    obtain ⟨b', o', e1, e2, e3⟩ := HA1.out.inn.at (i := i) (by rw [HX.out.1]; exact hin)
    cases e1
    rw [← hz]; exact e3
  rcases (show i < q ∨ i = q by omega) with hlt | rfl
  · have hz59 : z = 59 := by
      rw [← hz, HX.out.2.1, nth_app_left _ _ _ (by simpa using hlt)]
      simp [nth, hlt]
    subst hz59
    clear hz
    go_wp2_with fail
    go_roundg (q - (i + 1))
    case measure => omega
    case rel => exact ⟨i + 1, rfl, by omega, by omega, rfl⟩
  · have hz59 : (z == 59) = false := by
      obtain ⟨dg, hd1, hd2⟩ := enc_first a
      have := (b64_ok dg hd1).2.2.2
      have e : z = ((b64at dg : Nat) : Int) := by
        rw [← hz, HX.out.2.1, ← hd2]
        have := nth_app_right (List.replicate i 59) (encs a b c d ++ Y) 0
        simp only [List.length_replicate, Nat.add_zero] at this
        rw [this, encs]
        simp only [List.append_assoc]
        exact nth_app_left _ _ _ (enc_len a).1
      rw [e]; exact beq_eq_false_iff_ne.2 (by omega)
    clear hz
    go_upto_if 39 with fail
    go_cut [] (fun wx => C2 w j v B g bz oz n cap zs fo pb xss lb ⟨pgl, pgc, psi, pol, poc, pon⟩ ⟨L, sgc, ssi, sol, soc, son⟩ L i wx)
    case first =>
      rcases (show i = 0 ∨ i ≠ 0 by omega) with hi0 | hi0
      · have e0 : decide ((0 : Int) < (i : Int)) = false := decide_eq_false (by omega)
        have e1 : decide (0 < i) = false := decide_eq_false (by omega)
        go_wp2_with fail
        go_meet
        have hq := HA1.out
        refine ⟨v1, ts1, yss, ?_, HF.out.1, by have := HF.out.2.1; omega, by rw [HF.out.2.2, hi0]; simp⟩
        have e2 : (if L = 0 ∧ i = 0 then pgc else 0) = (if L = 0 then pgc else 0) := by simp [hi0]
        simp only [e2, if_pos hi0]
        exact hq
      · have e0 : decide ((0 : Int) < (i : Int)) = true := decide_eq_true (by omega)
        have e1 : decide (0 < i) = true := decide_eq_true (by omega)
        have hic : i ≤ cap := by omega
        have HY : Hid (yss.flatten.length ≤ 16777216 ∧ yss.length ≤ 1000) := Lib.hid (by
          have h1 := HF.out.2.1
          have h2 := congrArg List.length HF.out.2.2
          rw [List.length_append, List.length_replicate] at h2
          have := HXX.out
          omega)
        have HI : Hid (In .u8 wr (some ⟨bz, oz, none⟩) (List.replicate i 59)) := Lib.hid (HA1.out.inn.sub (X := []) HX.out.2.1 oz (fun _ => rfl))
        go_upto_region 9 with (go_at_call 10; refine (HA1.out.add _ _ _ (List.replicate i 59) (by simp) HI.out (fun _ x o e => by cases e; exact ⟨HA1.out.ne1, HA1.out.ne2⟩) (by omega) HY.out.1 HY.out.2).mono ?_; rintro e w2 ⟨v2, ts2, rfl, hA2⟩; have q1 := hA2.bp.cell 1; have q2 := hA2.bp.free 1; have q3 := (hA2.putP1 0).bs.cell 1; have q4 := (hA2.putP1 0).bs.free 1; simp [sCells] at q1; simp [St.cells] at q3; have HA2 := Lib.hid hA2; clear hA2)
        go_wp2_with fail
        go_meet
        have hq := (HA2.out.putP1 0).putS1 0
        rw [lastB_rep _ _ hi0] at hq
        refine ⟨v2, ts2, yss ++ [List.replicate i 59], ?_, by have := HF.out.1; simp; omega, by have := HF.out.2.1; simp; omega, by rw [List.flatten_append, HF.out.2.2]; simp⟩
        have e2 : (if L = 0 ∧ i = 0 then pgc else 0) = 0 := by simp [hi0]
        simp only [e2, if_neg hi0]
        exact hq
    case rest =>
    clear HA1 HF c0 c1
    obtain ⟨v2, ts2, zss, hA, hl1, hl2, hfl⟩ := hcut
    obtain ⟨G, hG⟩ : ∃ G, (if i = 0 then sgc else 0) = G := ⟨_, rfl⟩
    obtain ⟨Q, hQ⟩ : ∃ Q, (if L = 0 ∧ i = 0 then pgc else 0) = Q := ⟨_, rfl⟩
    obtain ⟨lb2, hlb⟩ : ∃ lb2, (if i = 0 then (if L = 0 then lb else 59) else 59) = lb2 := ⟨_, rfl⟩
    simp only [hG, hQ, hlb] at hA
    have HGQ : Hid ((if i = 0 then sgc else 0) = G ∧ (if L = 0 ∧ i = 0 then pgc else 0) = Q ∧ (if i = 0 then (if L = 0 then lb else 59) else 59) = lb2) := Lib.hid ⟨hG, hQ, hlb⟩
    have HGb : Hid (B24 G ∧ B24 Q) := Lib.hid (by
      have := HB.out
      unfold B24
      refine ⟨?_, ?_⟩
      · rw [← hG]; split <;> omega
      · rw [← hQ]; split <;> omega)
    have HA2 := Lib.hid hA
    have HF := Lib.hid (And.intro hl1 (And.intro hl2 hfl))
    have c0 := hA.bb.cell 0
    simp at c0
    clear hA hl1 hl2 hfl hG hQ hlb
    have hzs5 : zs = List.replicate i 59 ++ (enc a ++ (enc b ++ (enc c ++ (enc d ++ Y)))) := by
      rw [HX.out.2.1, encs]; simp only [List.append_assoc]
    obtain ⟨p1, hp1⟩ : ∃ p1, i + (enc a).length = p1 := ⟨_, rfl⟩
    obtain ⟨p2, hp2⟩ : ∃ p2, p1 + (enc b).length = p2 := ⟨_, rfl⟩
    obtain ⟨p3, hp3⟩ : ∃ p3, p2 + (enc c).length = p3 := ⟨_, rfl⟩
    obtain ⟨p4, hp4⟩ : ∃ p4, p3 + (enc d).length = p4 := ⟨_, rfl⟩
    have HD : ∀ (p0 p5 : Nat) (z : Int) (X R : List Int), zs = X ++ (enc z ++ R) → p0 = X.length → P12 z → p0 + (enc z).length = p5 → ∀ w', In .u8 w' (some ⟨bz, oz, none⟩) zs → Tab w' B → Calls Tryd.prog 19 #[.slice (some ⟨bz, oz, none⟩) n cap, .int .i64 p0] w' fun e w'' => e = .returned (.tuple #[.int .i64 z, .int .i64 p5]) ∧ ∃ m, w'' = w'.drewN m := by
      intro p0 p5 z X R h1 h2 h3 h4 w' h5 h6
      rw [← h4]
      exact dv_any _ _ _ zs p0 z w' HX.out.1 h5 (by omega) (by unfold P12 at h3; unfold Bnd; omega) (numAt_of h1 p0 h2) B h6
    have HD1 := Lib.hid (HD i p1 a (List.replicate i 59) _ hzs5 (by simp) HB.out.2.2.1 hp1)
    have HD2 := Lib.hid (HD p1 p2 b (List.replicate i 59 ++ enc a) (enc c ++ (enc d ++ Y)) (by rw [hzs5]; simp only [List.append_assoc]) (by rw [← hp1]; simp) HB.out.2.2.2.1 hp2)
    have HD3 := Lib.hid (HD p2 p3 c (List.replicate i 59 ++ enc a ++ enc b) (enc d ++ Y) (by rw [hzs5]; simp only [List.append_assoc]) (by rw [← hp2, ← hp1]; simp; omega) HB.out.2.2.2.2.1 hp3)
    have HD4 := Lib.hid (HD p3 p4 d (List.replicate i 59 ++ enc a ++ enc b ++ enc c) Y (by rw [hzs5]; simp only [List.append_assoc]) (by rw [← hp3, ← hp2, ← hp1]; simp; omega) HB.out.2.2.2.2.2 hp4)
    have hlen := congrArg List.length hzs5
    simp only [List.length_append, List.length_replicate] at hlen
    rw [HX.out.1] at hlen
    have hp4n : p4 + Y.length = n := by omega
    have hp1n : p1 < n := by have := (enc_len b).1; omega
    obtain ⟨dg, hd1, hd2⟩ := enc_first b
    have HC1 : Hid (∀ w', In .u8 w' (some ⟨bz, oz, none⟩) zs → w'.cell? ⟨bz, oz + p1, none⟩ = some (.int .u8 (b64at dg : Nat))) := Lib.hid (by
      intro w' hi
      obtain ⟨b', o', e1, e2, e3⟩ := hi.at (i := p1) (by rw [HX.out.1]; exact hp1n)
      cases e1
      have hl : (List.replicate i 59 ++ enc a).length = p1 := by rw [List.length_append, List.length_replicate]; exact hp1
      rw [e3, ← hd2]
      have := nth_app_right (List.replicate i 59 ++ enc a) (enc b ++ (enc c ++ (enc d ++ Y))) 0
      rw [hzs5, ← List.append_assoc]
      rw [hl] at this
      have h0 : p1 + 0 = p1 := rfl
      rw [h0] at this
      rw [this, nth_app_left _ _ _ (enc_len b).1])
    have HIX : Hid (∀ w' : World, Calls Tryd.prog 20 #[.string ⟨#[44, 59]⟩, .int .u8 (b64at dg : Nat)] w' fun e w'' => e = .returned (.int .i64 (-1)) ∧ w' = w'') := Lib.hid (fun w' => (Tryd.strings_IndexByte ⟨#[44, 59]⟩ (b64at dg : Nat) w').mono (fun e w'' h => ⟨by rw [h.1]; exact congrArg (fun x => Ending.returned (.int .i64 x)) (sep_index dg hd1), h.2.symm⟩))
    have HP := Lib.hid (And.intro hp1 (And.intro hp2 (And.intro hp3 (And.intro hp4 hp4n))))
    have e3 : ((p1 : Int) == (n : Int)) = false := beq_eq_false_iff_ne.2 (by omega)
    clear HD hzs5 hlen hp1 hp2 hp3 hp4 hp4n hd1 hd2
    go_upto_region 16 with (go_at_call 19; refine (HD1.out _ HA2.out.inn HA2.out.tab).mono ?_; rintro e w3 ⟨rfl, m, hm⟩; replace HA2 := Lib.hid (hm ▸ HA2.out.drewN m); replace c0 := HA2.out.bb.cell 0; simp at c0; have c1 := HC1.out _ HA2.out.inn; clear hm)
    go_upto_region 18 with (go_at_call 20; refine (HIX.out _).mono ?_; rintro e w3 ⟨rfl, rfl⟩)
    go_upto_region 19 with (go_at_call 19; refine (HD2.out _ HA2.out.inn HA2.out.tab).mono ?_; rintro e w3 ⟨rfl, m, hm⟩; replace HA2 := Lib.hid (hm ▸ HA2.out.drewN m); replace c0 := HA2.out.bb.cell 0; simp at c0; clear c1 hm)
    go_upto_region 20 with (go_at_call 19; refine (HD3.out _ HA2.out.inn HA2.out.tab).mono ?_; rintro e w3 ⟨rfl, m, hm⟩; replace HA2 := Lib.hid (hm ▸ HA2.out.drewN m); replace c0 := HA2.out.bb.cell 0; simp at c0; clear hm)
    go_upto_region 21 with (go_at_call 19; refine (HD4.out _ HA2.out.inn HA2.out.tab).mono ?_; rintro e wq ⟨rfl, m, hm⟩; replace HA2 := Lib.hid (hm ▸ HA2.out.drewN m); clear c0 hm)
    have hb := HB.out
    have hgb := HGb.out
    unfold B24 at hgb
    obtain ⟨⟨pb1, pb2, pb3, pb4, pb5⟩, ⟨sb1, sb2, sb3, sb4, sb5⟩, ba, bb, bc, bd⟩ := hb
    have HBB := Lib.hid (And.intro pb1 (And.intro pb2 (And.intro pb3 (And.intro pb4 (And.intro pb5 (And.intro sb1 (And.intro sb2 (And.intro sb3 (And.intro sb4 (And.intro sb5 (And.intro hgb (And.intro ba (And.intro bb (And.intro bc bd))))))))))))))
    have x1 : IntKind.i64.wrap (G + a) = G + a := IntWalk.i64_in _ (by omega)
    have x2 : IntKind.i64.wrap (ssi + b) = ssi + b := IntWalk.i64_in _ (by omega)
    have x3 : IntKind.i64.wrap (sol + c) = sol + c := IntWalk.i64_in _ (by omega)
    have x4 : IntKind.i64.wrap (soc + d) = soc + d := IntWalk.i64_in _ (by omega)
    clear pb1 pb2 pb3 pb4 pb5 sb1 sb2 sb3 sb4 sb5 ba bb bc bd hgb
    have r1 := HA2.out.bs.cell 1
    have r2 := HA2.out.bs.free 1
    simp [St.cells] at r1
    go_upto_region 22 with fail
    obtain ⟨W1, hW⟩ : ∃ W1, wq.setCell ⟨g + 1, 1, none⟩ (.int .i64 (G + a)) = W1 := ⟨_, rfl⟩
    replace HA2 := Lib.hid (HA2.out.putS1 (G + a))
    rw [hW] at HA2 ⊢
    clear r1 r2 x1 hW
    have r1 := HA2.out.bs.cell 2
    have r2 := HA2.out.bs.free 2
    simp [St.cells] at r1
    go_upto_region 23 with fail
    obtain ⟨W2, hW⟩ : ∃ W2, W1.setCell ⟨g + 1, 2, none⟩ (.int .i64 (ssi + b)) = W2 := ⟨_, rfl⟩
    replace HA2 := Lib.hid (HA2.out.putS2 (ssi + b))
    rw [hW] at HA2 ⊢
    clear r1 r2 x2 hW
    have r1 := HA2.out.bs.cell 3
    have r2 := HA2.out.bs.free 3
    simp [St.cells] at r1
    go_upto_region 24 with fail
    obtain ⟨W3, hW⟩ : ∃ W3, W2.setCell ⟨g + 1, 3, none⟩ (.int .i64 (sol + c)) = W3 := ⟨_, rfl⟩
    replace HA2 := Lib.hid (HA2.out.putS3 (sol + c))
    rw [hW] at HA2 ⊢
    clear r1 r2 x3 hW
    have r1 := HA2.out.bs.cell 4
    have r2 := HA2.out.bs.free 4
    simp [St.cells] at r1
    go_upto_region 25 with fail
    obtain ⟨W4, hW⟩ : ∃ W4, W3.setCell ⟨g + 1, 4, none⟩ (.int .i64 (soc + d)) = W4 := ⟨_, rfl⟩
    replace HA2 := Lib.hid (HA2.out.putS4 (soc + d))
    rw [hW] at HA2 ⊢
    clear r1 r2 x4 hW
    have r1 := HA2.out.bp.cell 6
    have r2 := HA2.out.bp.free 6
    simp [sCells] at r1
    go_upto_region 26 with fail
    obtain ⟨W6, hW⟩ : ∃ W6, W4.setCell ⟨g, 6, none⟩ (.bool false) = W6 := ⟨_, rfl⟩
    have HA3 := Lib.hid HA2.out.putP6
    rw [hW] at HA3 ⊢
    clear r1 r2 hW HA2
    go_cut [15] (fun x wx => C3 W6 (cmq lb2 ++ encs (G + a - Q) (ssi + b - psi) (sol + c - pol) (soc + d - poc)) x wx)
    case first =>
      have HL : Hid (W6.cell? ⟨j, 3, none⟩ = some (.int .u8 lb2)) := Lib.hid (HA3.out.jc.jn.blk.cell 3)
      have HM : Hid (∀ w', Below W6.heap.size W6 w' → Calls Tryd.prog 21 #[.slice none 0 0, .int .u8 lb2, .agg #[.int .i64 pgl, .int .i64 Q, .int .i64 psi, .int .i64 pol, .int .i64 poc, .int .i64 pon, .bool false], .agg #[.int .i64 L, .int .i64 (G + a), .int .i64 (ssi + b), .int .i64 (sol + c), .int .i64 (soc + d), .int .i64 son, .bool false], .bool false] w' fun e w'' => ∃ v', e = .returned (.tuple #[v', .agg #[.int .u32 0]]) ∧ Own .u8 5 w'' w'.heap.size v' (cmq lb2 ++ encs (G + a - Q) (ssi + b - psi) (sol + c - pol) (soc + d - poc)) ∧ Below w'.heap.size w' w'') := Lib.hid (by
        intro w' hb
        have hbb := HBB.out
        have ht : Tab w' w'.heap.size := HA3.out.tab.later hb (by have := HA3.out.lt; have := HA3.out.Bj; have := HA3.out.jb; omega) (Nat.le_refl _)
        refine (amb_any w'.heap.size (.slice none 0 0) [] lb2 ⟨pgl, Q, psi, pol, poc, pon⟩ ⟨L, G + a, ssi + b, sol + c, soc + d, son⟩ w' ht (Nat.le_refl _) (Own.nil _ _ _ _) (by simp only [Bnd]; omega) (by simp only [Bnd]; omega) (by simp only [Bnd]; omega) (by simp only [Bnd]; omega) (by simp)).mono ?_
        rintro e w'' ⟨v', rfl, ho, hg, ht'⟩
        exact ⟨v', rfl, ho, (Below.refl _ _).grown hg.1 (Nat.le_refl _) (fun x hx => by cases hx)⟩)
      have hS : S6 g j lb2 ⟨pgl, Q, psi, pol, poc, pon⟩ ⟨L, G + a, ssi + b, sol + c, soc + d, son⟩ W6 := ⟨HA3.out.bp, HA3.out.bs, HL.out, by have := HA3.out.jb; have := HA3.out.lt; omega⟩
      refine wp_region_held_drew (S := S6 g j lb2 ⟨pgl, Q, psi, pol, poc, pon⟩ ⟨L, G + a, ssi + b, sol + c, soc + d, son⟩) (by kernel_rfl) hS (fun hH => ?_)
      refine wpAnyH_take (i := 2) rfl (by kernel_rfl) (by kernel_rfl) (by kernel_rfl) (fun _ _ _ h => h) (yieldsIf_load_mid (by rfl) _ _ rfl g 0 rfl (St.cells ⟨pgl, Q, psi, pol, poc, pon⟩).toList _ (fun w h => h.1.range) Tryd.underlying42 rfl (by kernel_rfl)) hH ?_
      simp only [Act.put, List.setIfInBounds_toArray]
      refine wpAnyH_take (i := 3) rfl (by kernel_rfl) (by kernel_rfl) (by kernel_rfl) (fun _ _ _ h => h) (yieldsIf_load_mid (by rfl) _ _ rfl (g + 1) 0 rfl (St.cells ⟨L, G + a, ssi + b, sol + c, soc + d, son⟩).toList _ (fun w h => h.2.1.range) Tryd.underlying42 rfl (by kernel_rfl)) hH ?_
      simp only [Act.put]
      refine wpAnyH_take (i := 0) (v := .pointer (some ⟨j, 0, none⟩)) rfl (by kernel_rfl) (by kernel_rfl) (by kernel_rfl) (fun _ _ _ h => h) (Or.inl ⟨by rfl, fun w _ => by go_simp⟩) hH ?_
      simp only [Act.put]
      refine wpAnyH_take (i := 4) (v := .bool false) rfl (by kernel_rfl) (by kernel_rfl) (by kernel_rfl) (fun _ _ _ h => h) (Or.inl ⟨by rfl, fun w _ => by go_simp⟩) hH ?_
      simp only [Act.put]
      refine wpAnyH_ready (rs := [1, 9]) (by kernel_rfl) (by simp) ?_
      refine AllReadyH.cons rfl (fun K hK => ?_) (AllReadyH.cons rfl (fun K hK => ?_) AllReadyH.nil)
      · go_simp
        refine (last_any j lb2 _ hH.2.2.1).mono ?_
        rintro e w7 ⟨rfl, rfl⟩
        go_wp2_with fail
        refine hK.out _ _ hH (fun _ => ?_)
        clear hK K
        refine wpAnyH_ready (rs := [5, 9]) (by kernel_rfl) (by simp) ?_
        refine AllReadyH.cons rfl (fun K hK => ?_) (AllReadyH.cons rfl (fun K hK => ?_) AllReadyH.nil)
        · go_simp
          refine (HM.out W6.drew ((Below.refl _ _).drew)).mono ?_
          rintro e w7 ⟨v', rfl, ho, hb⟩
          have hH1 := hH.kept hb
          have HO := Lib.hid (And.intro ho hb)
          clear ho hb
          go_wp2_with fail
          refine hK.out _ _ hH1 (fun _ => ?_)
          clear hK K
          refine wpAnyH_take (i := 6) (v := .tuple #[v', .agg #[.int .u32 0]]) rfl (by kernel_rfl) (by kernel_rfl) (by kernel_rfl) (fun _ _ _ h => h) (Or.inl ⟨by rfl, fun w _ => by go_simp⟩) hH1 ?_
          simp only [Act.put, List.setIfInBounds_toArray]
          refine wpAnyH_take (i := 7) (v := v') rfl (by kernel_rfl) (by kernel_rfl) (by kernel_rfl) (fun _ _ _ h => h) (Or.inl ⟨by rfl, fun w _ => by go_simp⟩) hH1 ?_
          simp only [Act.put]
          refine wpAnyH_take (i := 8) (v := .agg #[.int .u32 0]) rfl (by kernel_rfl) (by kernel_rfl) (by kernel_rfl) (fun _ _ _ h => h) (Or.inl ⟨by rfl, fun w _ => by go_simp⟩) hH1 ?_
          simp only [Act.put]
          refine wpAnyH_ready (rs := [9]) (by kernel_rfl) (by simp) ?_
          refine AllReadyH.cons rfl (fun K hK => ?_) AllReadyH.nil
          refine step_alloc_zero (by rfl) 45 rfl #[.int .u32 0] alloc45 ?_
          have hH2 := hH1.kept ((Below.refl _ w7).alloc (Nat.le_refl _) (.cells #[.int .u32 0] 45))
          have hB := Blk.new w7 45 #[.int .u32 0]
          refine hK.out _ _ hH2 (fun _ => ?_)
          clear hK K
          simp only [Act.put]
          refine wpAnyH_take (i := 10) (v := v') rfl (by kernel_rfl) (by kernel_rfl) (by kernel_rfl) (fun _ _ _ h => h) (Or.inl ⟨by rfl, fun w _ => by go_simp⟩) hH2 ?_
          simp only [Act.put]
          refine wpAnyH_last_store 11 { dst := none, op := Op.store 45 (Operand.tmp 16) (Operand.tmp 119), type := 0, pos := _, after := _, guard := none } (by kernel_rfl) (by kernel_rfl) rfl (by rfl) 45 _ _ rfl (w7.heap.size) #[.int .u32 0] #[.int .u32 0] hB rfl rfl rfl (by kernel_rfl) one45 ?_
          intro w9 hb9 hg9
          refine ⟨hH2.gb6 hg9 (by have := HA3.out.lt; have := HA3.out.jb; have := HO.out.2.size; simp at this ⊢; omega), ?_⟩
          go_simp
          go_wp2_with fail
          go_meet
          exact c3_a HO.out.1 HO.out.2 hg9
        · refine step_alloc_zero (by rfl) 45 rfl #[.int .u32 0] alloc45 ?_
          have hH1 := hH.kept ((Below.refl _ W6.drew).alloc (Nat.le_refl _) (.cells #[.int .u32 0] 45))
          have hB := Blk.new W6.drew 45 #[.int .u32 0]
          refine hK.out _ _ hH1 (fun _ => ?_)
          clear hK K
          simp only [Act.put, List.setIfInBounds_toArray]
          refine wpAnyH_ready (rs := [5]) (by kernel_rfl) (by simp) ?_
          refine AllReadyH.cons rfl (fun K hK => ?_) AllReadyH.nil
          go_simp
          refine (HM.out (W6.drew.alloc (.cells #[.int .u32 0] 45)) ((Below.refl _ _).drew.alloc (Nat.le_refl _) _)).mono ?_
          rintro e w7 ⟨v', rfl, ho, hb⟩
          have hH2 := hH1.kept hb
          replace hB := hB.kept hb
          have HO := Lib.hid (And.intro ho hb)
          clear ho hb
          go_wp2_with fail
          refine hK.out _ _ hH2 (fun _ => ?_)
          clear hK K
          refine wpAnyH_take (i := 6) (v := .tuple #[v', .agg #[.int .u32 0]]) rfl (by kernel_rfl) (by kernel_rfl) (by kernel_rfl) (fun _ _ _ h => h) (Or.inl ⟨by rfl, fun w _ => by go_simp⟩) hH2 ?_
          simp only [Act.put, List.setIfInBounds_toArray]
          refine wpAnyH_take (i := 7) (v := v') rfl (by kernel_rfl) (by kernel_rfl) (by kernel_rfl) (fun _ _ _ h => h) (Or.inl ⟨by rfl, fun w _ => by go_simp⟩) hH2 ?_
          simp only [Act.put]
          refine wpAnyH_take (i := 8) (v := .agg #[.int .u32 0]) rfl (by kernel_rfl) (by kernel_rfl) (by kernel_rfl) (fun _ _ _ h => h) (Or.inl ⟨by rfl, fun w _ => by go_simp⟩) hH2 ?_
          simp only [Act.put]
          refine wpAnyH_take (i := 10) (v := v') rfl (by kernel_rfl) (by kernel_rfl) (by kernel_rfl) (fun _ _ _ h => h) (Or.inl ⟨by rfl, fun w _ => by go_simp⟩) hH2 ?_
          simp only [Act.put]
          refine wpAnyH_last_store 11 { dst := none, op := Op.store 45 (Operand.tmp 16) (Operand.tmp 119), type := 0, pos := _, after := _, guard := none } (by kernel_rfl) (by kernel_rfl) rfl (by rfl) 45 _ _ rfl (W6.drew.heap.size) #[.int .u32 0] #[.int .u32 0] hB rfl rfl rfl (by kernel_rfl) one45 ?_
          intro w9 hb9 hg9
          refine ⟨hH2.gb6 hg9 (by have := HA3.out.lt; have := HA3.out.jb; have := HO.out.2.size; simp at this ⊢; omega), ?_⟩
          go_simp
          go_wp2_with fail
          go_meet
          exact c3_b HO.out.1 HO.out.2 hg9
      · refine step_alloc_zero (by rfl) 45 rfl #[.int .u32 0] alloc45 ?_
        have hH1 := hH.kept ((Below.refl _ W6.drew).alloc (Nat.le_refl _) (.cells #[.int .u32 0] 45))
        have hB := Blk.new W6.drew 45 #[.int .u32 0]
        refine hK.out _ _ hH1 (fun _ => ?_)
        clear hK K
        simp only [Act.put]
        refine wpAnyH_ready (rs := [1]) (by kernel_rfl) (by simp) ?_
        refine AllReadyH.cons rfl (fun K hK => ?_) AllReadyH.nil
        go_simp
        refine (last_any j lb2 _ hH1.2.2.1).mono ?_
        rintro e w7 ⟨rfl, rfl⟩
        go_wp2_with fail
        refine hK.out _ _ hH1 (fun _ => ?_)
        clear hK K
        refine wpAnyH_ready (rs := [5]) (by kernel_rfl) (by simp) ?_
        refine AllReadyH.cons rfl (fun K hK => ?_) AllReadyH.nil
        go_simp
        refine (HM.out (W6.drew.alloc (.cells #[.int .u32 0] 45)) ((Below.refl _ _).drew.alloc (Nat.le_refl _) _)).mono ?_
        rintro e w7 ⟨v', rfl, ho, hb⟩
        have hH2 := hH1.kept hb
        replace hB := hB.kept hb
        have HO := Lib.hid (And.intro ho hb)
        clear ho hb
        go_wp2_with fail
        refine hK.out _ _ hH2 (fun _ => ?_)
        clear hK K
        refine wpAnyH_take (i := 6) (v := .tuple #[v', .agg #[.int .u32 0]]) rfl (by kernel_rfl) (by kernel_rfl) (by kernel_rfl) (fun _ _ _ h => h) (Or.inl ⟨by rfl, fun w _ => by go_simp⟩) hH2 ?_
        simp only [Act.put, List.setIfInBounds_toArray]
        refine wpAnyH_take (i := 7) (v := v') rfl (by kernel_rfl) (by kernel_rfl) (by kernel_rfl) (fun _ _ _ h => h) (Or.inl ⟨by rfl, fun w _ => by go_simp⟩) hH2 ?_
        simp only [Act.put]
        refine wpAnyH_take (i := 8) (v := .agg #[.int .u32 0]) rfl (by kernel_rfl) (by kernel_rfl) (by kernel_rfl) (fun _ _ _ h => h) (Or.inl ⟨by rfl, fun w _ => by go_simp⟩) hH2 ?_
        simp only [Act.put]
        refine wpAnyH_take (i := 10) (v := v') rfl (by kernel_rfl) (by kernel_rfl) (by kernel_rfl) (fun _ _ _ h => h) (Or.inl ⟨by rfl, fun w _ => by go_simp⟩) hH2 ?_
        simp only [Act.put]
        refine wpAnyH_last_store 11 { dst := none, op := Op.store 45 (Operand.tmp 16) (Operand.tmp 119), type := 0, pos := _, after := _, guard := none } (by kernel_rfl) (by kernel_rfl) rfl (by rfl) 45 _ _ rfl (W6.drew.heap.size) #[.int .u32 0] #[.int .u32 0] hB rfl rfl rfl (by kernel_rfl) one45 ?_
        intro w9 hb9 hg9
        refine ⟨hH2.gb6 hg9 (by have := HA3.out.lt; have := HA3.out.jb; have := HO.out.2.size; simp at this ⊢; omega), ?_⟩
        go_simp
        go_wp2_with fail
        go_meet
        exact c3_b HO.out.1 HO.out.2 hg9
    case rest =>
      obtain ⟨ho, hbw⟩ := hcut
      obtain ⟨M, hM⟩ : ∃ M, cmq lb2 ++ encs (G + a - Q) (ssi + b - psi) (sol + c - pol) (soc + d - poc) = M := ⟨_, rfl⟩
      rw [hM] at ho
      have hMl : M.length ≤ 29 := by
        rw [← hM, List.length_append]
        have h1 := (encs_len (G + a - Q) (ssi + b - psi) (sol + c - pol) (soc + d - poc)).2
        have h2 : (cmq lb2).length ≤ 1 := by unfold cmq; split <;> simp
        omega
      obtain ⟨ao, cx, hx, hinx, _⟩ := ho.form
      have HZ : Hid (zss.flatten.length ≤ 6000000 ∧ zss.length ≤ 902) := Lib.hid (by
        have h1 := HF.out.2.1
        have h2 := congrArg List.length HF.out.2.2
        simp only [List.length_append, List.length_replicate] at h2
        have := HXX.out
        omega)
      have HA4 := Lib.hid (HA3.out.below hbw)
      have HADD : Hid (Calls Tryd.prog 10 #[.pointer (some ⟨j, 0, none⟩), u15] wc (AmTo w j v B g bz oz n cap zs fo false (zss ++ [M]) (lastB lb2 M) ⟨pgl, Q, psi, pol, poc, pon⟩ ⟨L, G + a, ssi + b, sol + c, soc + d, son⟩)) := Lib.hid (by
        rw [hx]
        exact HA4.out.add ao M.length cx M rfl hinx (fun _ y o e => by
          subst e
          exact HA3.out.fresh (ho.lt y (by rw [hx]; rfl)).1) (by omega) (by have := HZ.out.1; omega) (by have := HZ.out.2; omega))
      have HM := Lib.hid (And.intro hM hMl)
      have hp4c : p4 ≤ n := by have := HP.out.2.2.2.2; omega
      have hpq : p4 = i + (encs a b c d).length := by
        have := HP.out
        simp only [encs, List.length_append]; omega
      have hzs6 : zs = (List.replicate i 59 ++ encs a b c d) ++ Y := by rw [HX.out.2.1, List.append_assoc]
      have HZ6 := Lib.hid (And.intro hpq hzs6)
      clear ho hbw hM hMl hx hinx HA3 HD1 HD2 HD3 HD4 HC1 HIX hpq hzs6
      go_upto_region 28 with (go_at_call 10; refine HADD.out.mono ?_; rintro e w3 ⟨v3, ts3, rfl, hA⟩; have HA5 := Lib.hid hA; have f1 := hA.bb.cell 1; simp at f1; clear hA)
      rcases nm with _ | ⟨mid, eo, Y2⟩
      · have hfo0 : fo = 0 := HX.out.2.2.1
        subst hfo0
        go_upto_region 35 with (go_at_call 23; refine (iv_any _ _).mono ?_; rintro e w5 ⟨rfl, hb5⟩; have HA6 := Lib.hid (HA5.out.below hb5); have g0 := HA6.out.bb.cell 0; simp at g0; clear hb5)
        have HI : Hid (In .u8 w5 (if cap = p4 then some ⟨bz, oz, none⟩ else some ⟨bz, oz + p4, none⟩) Y) := Lib.hid (HA6.out.inn.tail (X := List.replicate i 59 ++ encs a b c d) HZ6.out.2 (by rw [HZ6.out.1]; simp) HX.out.1 hcap)
        have HYl : Hid (Y.length = n - p4) := Lib.hid (by have := HP.out.2.2.2.2; omega)
        have HAD2 : Hid (∀ c', Calls Tryd.prog 10 #[.pointer (some ⟨j, 0, none⟩), .slice (if cap = p4 then some ⟨bz, oz, none⟩ else some ⟨bz, oz + p4, none⟩) (n - p4) c'] w5 (AmTo w j v B g bz oz n cap zs 0 false (zss ++ [M] ++ [Y]) (lastB (lastB lb2 M) Y) ⟨pgl, Q, psi, pol, poc, pon⟩ ⟨L, G + a, ssi + b, sol + c, soc + d, son⟩)) := Lib.hid (fun c' =>
          HA6.out.add _ _ c' Y HYl.out HI.out (fun _ x o e => by have := if_addr e; subst this; exact ⟨HA6.out.ne1, HA6.out.ne2⟩) (by omega) (by have := HZ.out.1; have := HM.out.2; simp only [List.flatten_append, List.length_append, List.flatten_cons, List.flatten_nil, List.append_nil]; omega) (by have := HZ.out.2; simp only [List.length_append, List.length_cons, List.length_nil]; omega))
        have hpc : p4 ≤ cap := by omega
        clear HI HADD
        go_wp2_with (go_at_call 10; refine (HAD2.out _).mono ?_; rintro e w7 ⟨v7, ts7, rfl, hA⟩; have HA7 := Lib.hid hA; clear hA)
        all_goals
          go_end0
          exact as_fin_no HA7.out HF.out HM.out.1 HGQ.out
      · obtain ⟨b4, hb4⟩ : ∃ b4, p4 + mid.length = b4 := ⟨_, rfl⟩
        obtain ⟨a4, ha4⟩ : ∃ a4, b4 + (enc eo).length = a4 := ⟨_, rfl⟩
        obtain ⟨E, hE⟩ : ∃ E, eo + (son - pon) = E := ⟨_, rfl⟩
        have hfo1 : fo = ((4294967295 - b4 : Nat) : Int) := by rw [← hb4, HZ6.out.1]; exact HX.out.2.2.1.1
        have hpe : P12 eo := HX.out.2.2.1.2
        have hY : Y = mid ++ (enc eo ++ Y2) := by
          have := HX.out.2.2.2
          cases this with
          | yes _ _ _ h => exact h
        have hYl : Y.length = mid.length + ((enc eo).length + Y2.length) := by rw [hY]; simp
        have hel := (enc_len eo).1
        have hp4n := HP.out.2.2.2.2
        have hb4n : b4 < n := by omega
        have ha4n : a4 ≤ n := by omega
        have hp4b : p4 ≤ b4 := by omega
        have hpc : ¬ cap = p4 := by omega
        have hbc : b4 ≤ cap := by omega
        have hac : a4 ≤ cap := by omega
        have hfv : (fo != 0) = true := bne_iff_ne.2 (by omega)
        have HIV : Hid (∀ w', Calls Tryd.prog 23 #[.agg #[.int .u32 fo]] w' fun e w'' => e = .returned (.bool true) ∧ Below w'.heap.size w' w'') := Lib.hid (fun w' => by have := iv_any fo w'; rw [hfv] at this; exact this)
        have HGI : Hid (∀ w', Calls Tryd.prog 24 #[.agg #[.int .u32 fo]] w' fun e w'' => e = .returned (.int .u32 b4) ∧ Below w'.heap.size w' w'') := Lib.hid (fun w' => by rw [hfo1]; exact gi_any b4 w' (by omega))
        have hzs7 : zs = ((List.replicate i 59 ++ encs a b c d) ++ mid) ++ (enc eo ++ Y2) := by rw [HZ6.out.2, hY]; simp only [List.append_assoc]
        have hX7 : b4 = ((List.replicate i 59 ++ encs a b c d) ++ mid).length := by rw [← hb4, HZ6.out.1]; simp; omega
        have HDE : Hid (∀ w', In .u8 w' (some ⟨bz, oz, none⟩) zs → Tab w' B → Calls Tryd.prog 19 #[.slice (some ⟨bz, oz, none⟩) n cap, .int .i64 b4] w' fun e w'' => e = .returned (.tuple #[.int .i64 eo, .int .i64 a4]) ∧ ∃ m, w'' = w'.drewN m) := Lib.hid (by
          intro w' h5 h6
          rw [← ha4]
          exact dv_any _ _ _ zs b4 eo w' HX.out.1 h5 (by omega) (by unfold P12 at hpe; unfold Bnd; omega) (numAt_of hzs7 b4 hX7) B h6)
        have hbb := HBB.out
        unfold P12 at hpe
        have x5 : IntKind.i64.wrap (son - pon) = son - pon := IntWalk.i64_in _ (by omega)
        have x6 : IntKind.i64.wrap (eo + (son - pon)) = E := by rw [← hE]; exact IntWalk.i64_in _ (by omega)
        have hEb : -1073741823 ≤ E ∧ E ≤ 1073741823 := by omega
        have HEB := Lib.hid hEb
        have HEN : Hid (∀ w', Tab w' w'.heap.size → Calls Tryd.prog 25 #[.slice none 0 0, .int .i64 E] w' fun e w'' => ∃ ax cx, e = .returned (.slice ax (enc E).length cx) ∧ In .u8 w'' ax (enc E) ∧ Below w'.heap.size w' w'' ∧ ∀ y o, ax = some ⟨y, o, none⟩ → w'.heap.size ≤ y) := Lib.hid (by
          intro w' ht
          refine (enc_any w'.heap.size (.slice none 0 0) [] E w' ht (Nat.le_refl _) (Own.nil _ _ _ _) HEB.out.1 HEB.out.2 (by simp)).mono ?_
          rintro e w'' ⟨v', rfl, ho, hg, _⟩
          rw [List.nil_append] at ho
          obtain ⟨ax, cx, hx, hi, _⟩ := ho.form
          exact ⟨ax, cx, by rw [hx], hi, (Below.refl _ _).grown hg.1 (Nat.le_refl _) (fun x hx => by cases hx), fun y o e => (ho.lt y (by rw [hx, e]; rfl)).1⟩)
        have hEl := (enc_len E).2
        have HSZ : Hid (mid.length = b4 - p4 ∧ Y2.length = n - a4 ∧ mid.length ≤ 4000000 ∧ Y2.length ≤ 4000000 ∧ (enc E).length ≤ 7) := Lib.hid (by omega)
        have HYY := Lib.hid (And.intro hY (And.intro hzs7 (And.intro hX7 (And.intro ha4 hE))))
        have hbn2 : b4 ≤ 4000000 := by omega
        have hpn2 : p4 ≤ 4000000 := by omega
        have han2 : a4 ≤ 4000000 := by omega
        clear hfo1 hY hYl hel hp4n hfv hzs7 hX7 hbb hpe hEb hEl hb4 ha4 hE HADD
        go_upto_region 29 with (go_at_call 23; refine (HIV.out _).mono ?_; rintro e w5 ⟨rfl, hb5⟩; have HA6 := Lib.hid (HA5.out.below hb5); have f2 := HA6.out.bb.cell 1; simp at f2; clear hb5 f1 HA5)
        go_upto_region 30 with (go_at_call 24; refine (HGI.out _).mono ?_; rintro e w6 ⟨rfl, hb5⟩; have HA7 := Lib.hid (HA6.out.below hb5); have g0 := HA7.out.bb.cell 0; simp at g0; clear hb5 f2 HA6)
        go_upto_region 31 with (go_at_call 19; refine (HDE.out _ HA7.out.inn HA7.out.tab).mono ?_; rintro e w7 ⟨rfl, m, hm⟩; have HA8 := Lib.hid (hm ▸ HA7.out.drewN m); clear hm HA7 g0)
        have r1 := HA8.out.bs.cell 5
        have r2 := HA8.out.bp.cell 5
        simp [St.cells] at r1; simp [sCells] at r2
        go_upto_region 32 with fail
        clear x5 x6 r1 r2
        have g0 := HA8.out.bb.cell 0
        simp at g0
        have HI1 : Hid (In .u8 w7 (some ⟨bz, oz + p4, none⟩) mid) := Lib.hid (HA8.out.inn.sub (X := List.replicate i 59 ++ encs a b c d) (Y := mid) (Z := enc eo ++ Y2) (by rw [HYY.out.2.1]; simp only [List.append_assoc]) _ (fun _ => by rw [HZ6.out.1]; simp))
        have HAD2 : Hid (∀ c', Calls Tryd.prog 10 #[.pointer (some ⟨j, 0, none⟩), .slice (some ⟨bz, oz + p4, none⟩) (b4 - p4) c'] w7 (AmTo w j v B g bz oz n cap zs fo false (zss ++ [M] ++ [mid]) (lastB (lastB lb2 M) mid) ⟨pgl, Q, psi, pol, poc, pon⟩ ⟨L, G + a, ssi + b, sol + c, soc + d, son⟩)) := Lib.hid (fun c' =>
          HA8.out.add _ _ c' mid HSZ.out.1 HI1.out (fun _ x o e => by cases e; exact ⟨HA8.out.ne1, HA8.out.ne2⟩) (by omega) (by have := HZ.out.1; have := HM.out.2; simp only [List.flatten_append, List.length_append, List.flatten_cons, List.flatten_nil, List.append_nil]; omega) (by have := HZ.out.2; simp only [List.length_append, List.length_cons, List.length_nil]; omega))
        go_upto_region 33 with (go_at_call 10; refine (HAD2.out _).mono ?_; rintro e w8 ⟨v8, ts8, rfl, hA⟩; have HA9 := Lib.hid hA; clear hA HAD2 HI1 HA8 g0)
        go_upto_region 34 with (first
          | (go_at_call 25; refine (HEN.out _ (HA9.out.tab.mono (by have := HA9.out.Bj; have := HA9.out.jb; have := HA9.out.lt; omega))).mono ?_; rintro e w9 ⟨ax, cx, rfl, hi, hb, hf⟩; have HB9 := Lib.hid (And.intro (HA9.out.below hb) (And.intro hi hf)); clear hi hb hf)
          | (go_at_call 10; refine (HB9.out.1.add _ _ _ (enc E) rfl HB9.out.2.1 (fun _ y o e => HA9.out.fresh (HB9.out.2.2 y o e)) (by have := HSZ.out.2.2.2.2; omega) (by have := HZ.out.1; have := HM.out.2; have := HSZ.out; simp only [List.flatten_append, List.length_append, List.flatten_cons, List.flatten_nil, List.append_nil]; omega) (by have := HZ.out.2; simp only [List.length_append, List.length_cons, List.length_nil]; omega)).mono ?_; rintro e w10 ⟨v10, ts10, rfl, hA⟩; have HA10 := Lib.hid hA; clear hA HB9 HA9))
        have g0 := HA10.out.bb.cell 0
        simp at g0
        have HI2 : Hid (In .u8 w10 (if cap = a4 then some ⟨bz, oz, none⟩ else some ⟨bz, oz + a4, none⟩) Y2) := Lib.hid (HA10.out.inn.tail (X := ((List.replicate i 59 ++ encs a b c d) ++ mid) ++ enc eo) (by rw [HYY.out.2.1]; simp only [List.append_assoc]) (by rw [← HYY.out.2.2.2.1, HYY.out.2.2.1]; simp; omega) HX.out.1 hcap)
        have HAD3 : Hid (∀ c', Calls Tryd.prog 10 #[.pointer (some ⟨j, 0, none⟩), .slice (if cap = a4 then some ⟨bz, oz, none⟩ else some ⟨bz, oz + a4, none⟩) (n - a4) c'] w10 (AmTo w j v B g bz oz n cap zs fo false (zss ++ [M] ++ [mid] ++ [enc E] ++ [Y2]) (lastB (lastB (lastB (lastB lb2 M) mid) (enc E)) Y2) ⟨pgl, Q, psi, pol, poc, pon⟩ ⟨L, G + a, ssi + b, sol + c, soc + d, son⟩)) := Lib.hid (fun c' =>
          HA10.out.add _ _ c' Y2 HSZ.out.2.1 HI2.out (fun _ x o e => by have := if_addr e; subst this; exact ⟨HA10.out.ne1, HA10.out.ne2⟩) (by omega) (by have := HZ.out.1; have := HM.out.2; have := HSZ.out; simp only [List.flatten_append, List.length_append, List.flatten_cons, List.flatten_nil, List.append_nil]; omega) (by have := HZ.out.2; simp only [List.length_append, List.length_cons, List.length_nil]; omega))
        clear HI2
        go_wp2_with (go_at_call 10; refine (HAD3.out _).mono ?_; rintro e w11 ⟨v11, ts11, rfl, hA⟩; have HA11 := Lib.hid hA; clear hA)
        all_goals
          go_end0
          have hA := HA11.out
          rw [← HYY.out.2.2.2.2] at hA
          exact as_fin_yes hA HF.out HM.out.1 HGQ.out
end Go.Proofs.YtoegmcakolidbaaDoor
