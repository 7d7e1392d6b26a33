/-
  (*ChunkBuilder).appendMapping: a name is added. No statement of the seat is proved here.
-/
import Derived.Test.YtfbeeekakfllpaaDoorBu
import Derived.Test.YtfbeeekakfllpaaDoorIe
import Derived.Test.YtfbeeekakfllpaaDoorStp
import Derived.Test.YtfbeeekakfllpaaDoorAd
import Derived.Test.YtfbeeekakfllpaaDoorGc
namespace Go.Proofs.YtfbeeekakfllpaaDoor
open Go.RowKit Go.Maps
set_option linter.unusedVariables false
set_option linter.unusedSimpArgs false
theorem info22 : (Tryd.prog.info? 22).map (fun i => (i.zero, i.size, i.bytes)) = some (some (.slice none 0 0), 1, 24) := by kernel_rfl
/-- a call of a Go function, as one step of a region that draws -/
theorem step_call {P : Program} {ops : Array Oper} {o : Oper} {a : Act} {w : World} {K : Act → World → Prop} {Q : Exit → Act → World → Prop} {E : Prop} (hgd : o.guard = none) (n : FuncId) (args : Array Value)
    (hrun : (execOp a.eval o).run P w = .ok (.enter n args) w) {Post : Ending → World → Prop} (hc : Calls P n args w Post) (h : ∀ e w', Post e w' → ∃ v, e = .returned v ∧ K (a.put o.dst v) w') : if Region.wanted o (yielded ops a.tmps) = true then Oper.wp P o a w K Q else E := by
  have hw : Region.wanted o (yielded ops a.tmps) = true := by simp [Region.wanted, hgd]
  rw [if_pos hw]
  unfold Oper.wp
  rw [hrun, Oper.upon_enter]
  refine hc.mono ?_
  intro e w' hp
  obtain ⟨v, rfl, hk⟩ := h e w' hp
  exact hk
theorem cell_blk {w : World} {a : Addr} {v : Value} (h : w.cell? a = some v) : ∃ cs t fr, w.heap[a.block]? = some (.cells cs t fr) := by
  unfold World.cell? at h
  split at h
  · next cs t fr he => exact ⟨cs, t, fr, he⟩
  · cases h
/-- the table over a world in which a map's block has turned -/
theorem Tab.mapped {w w' : World} {g bm : Nat} (h : Tab w g) (hk : ∀ i, i < w.heap.size → i < g → i ≠ bm → w'.heap[i]? = w.heap[i]?) (hm : ∀ cs t fr, w.heap[bm]? ≠ some (.cells cs t fr)) : Tab w' g := by
  obtain ⟨h0, R, o, c, hR, t0, tT⟩ := h
  have key : ∀ (a : Addr) v, w.cell? a = some v → a.block < g → w'.cell? a = some v := by
    intro a v ha hg
    obtain ⟨cs, t, fr, he⟩ := cell_blk ha
    have hl := blk_lt he
    exact (World.cell?_of_block (w := w) (hk a.block hl hg (fun e => hm cs t fr (e ▸ he)))).trans ha
  exact ⟨h0, R, o, c, hR, key _ _ t0 h0, fun j hj => key _ _ (tT j hj) hR⟩
theorem cells_qn (x : Cb) (sm v' : Value) (q : Pq) : (up x sm q).cells.setIfInBounds 2 v' = (up { x with qn := v' } sm q).cells := by kernel_rfl
theorem Mp.notcells {w : World} {bm n : Nat} {D : DataW Unit} (h : Mp w bm n D) : ∀ cs t fr, w.heap[bm]? ≠ some (.cells cs t fr) := by
  intro cs t fr e
  obtain ⟨es, c, h1, h2⟩ := h
  rw [e] at h1; cases h1
/-- a name is added: quoted, appended, numbered -/
theorem Bu.name {w w1 w4 w6 : World} {g : Nat} {x : Cb} {sm : Value} {q : Pq} {qvs : List Value} {ns : List ByteArray} {bm : Nat} {asc : Bool} {s : ByteArray} {qv v' : Value} {n : Nat} {D : DataW Unit} (h : Bu w g x sm q qvs ns bm asc) (hb : Below w.heap.size w w1) (hq : Own .u8 5 w1 w.heap.size qv (qt s asc)) (hg : w1.grownBy w4 x.qn.ownBlock) (ho : OwnT 22 1 w4 (g + 1) v' (qvs.map (fun x => [x]) ++ [[qv]])) (hn : v'.ownBlock = x.qn.ownBlock ∨ ∃ y, v'.ownBlock = some y ∧ w1.heap.size ≤ y)
    (hm : (w4.setCell ⟨g, 2, none⟩ v').grownBy w6 (some bm)) (hmp : Mp w6 bm n D) (hk : Know D (ns ++ [s])) (hnn : n ≤ (ns ++ [s]).length) :
    Bs w g x sm qvs bm asc w6 { x with qn := v' } sm q (qvs ++ [qv]) (ns ++ [s]) := by
  have hgl := h.cbd.blk.lt
  have hbg := h.bg
  have hs1 := hb.size
  have hs4 := hg.size
  have hs6 := hm.size
  have hs5 : (w4.setCell ⟨g, 2, none⟩ v').heap.size = w4.heap.size := by simp [World.setCell]
  have hqng : ∀ i, x.qn.ownBlock = some i → g + 1 ≤ i ∧ i < w.heap.size := fun i hi => h.qn.lt i hi
  -- an old block
  have H1 : ∀ i, i < w.heap.size → i ≠ g → i ≠ bm → x.qn.ownBlock ≠ some i → w6.heap[i]? = w.heap[i]? := fun i hi h1 h2 h3 =>
    (hm.block i (by omega) (fun e => h2 (Option.some.inj e))).trans ((Below.heap_setCell _ _ _ _ h1).trans ((hg.block i (by omega) (fun e => h3 e.symm)).trans (hb.block i hi)))
  have H2 : ∀ i, w.heap.size ≤ i → i < w1.heap.size → w6.heap[i]? = w1.heap[i]? := fun i hi hl =>
    (hm.block i (by omega) (fun e => by cases e; omega)).trans ((Below.heap_setCell _ _ _ _ (by show i ≠ g; omega)).trans (hg.block i hl (fun e => by have := (hqng i e.symm).2; omega)))
  have hqs : ∀ i, x.qn.ownBlock = some i → sm.ownBlock ≠ some i := ne_types h.qn.heap h.cbd.own.heap (by decide)
  have hblk : Blk w6 g 61 (up { x with qn := v' } sm q).cells := by
    have b4 : Blk w4 g 61 (up x sm q).cells := (hg.block g (by omega) (fun e => by have := (hqng g e.symm).1; omega)).trans ((hb.block g hgl).trans h.cbd.blk)
    have b5 := b4.set 2 v'
    rw [cells_qn] at b5
    exact (hm.block g (by rw [hs5]; exact b4.lt) (fun e => by cases e; omega)).trans b5
  obtain ⟨n0, D0, hmp0, _, _⟩ := h.mp
  have hv'g : ∀ i, v'.ownBlock = some i → g + 1 ≤ i := fun i hi => (ho.lt i hi).1
  refine ⟨⟨⟨hblk, ?_, ?_⟩, h.ism, h.cov, h.as_, ?_, by simp [h.ql], fun k hk1 hk2 => ?_, fun v hv o hvo => ?_, h.nm, ⟨n, D, hmp, hk, hnn⟩, h.bg⟩, ?_, ?_⟩
  · exact h.cbd.own.eq (fun i hi => H1 i (h.cbd.own.lt i hi).2 (by have := (h.cbd.own.lt i hi).1; omega) (by have := (h.cbd.own.lt i hi).1; omega) (fun e => hqs i e hi))
  · exact h.cbd.tab.mapped (fun i hi hig hib => H1 i hi (by omega) hib (fun e => by have := (hqng i e).1; omega)) hmp0.notcells
  · have h4 : Own1 22 w4 (g + 1) v' (qvs ++ [qv]) := by show OwnT 22 1 _ _ _ _; rw [List.map_append]; exact ho
    exact h4.eq (fun i hi => (hm.block i (by rw [hs5]; exact (h4.lt i hi).2) (fun e => by cases e; have := hv'g _ hi; omega)).trans (Below.heap_setCell _ _ _ _ (by show i ≠ g; have := hv'g i hi; omega)))
  · rw [List.length_append] at hk1
    rcases (show k < qvs.length ∨ k = qvs.length by simp at hk1; omega) with c | c
    · rw [List.getElem_append_left c, List.getElem_append_left (by rw [← h.ql]; exact c)]
      have ho := h.qd k c (by rw [← h.ql]; exact c)
      have hne := ne_types ho.heap h.qn.heap (by decide)
      exact ho.eq (fun i hi => H1 i (ho.lt i hi).2 (by have := (ho.lt i hi).1; omega) (by have := (ho.lt i hi).1; omega) (hne i hi))
    · subst c
      have e1 : (qvs ++ [qv])[qvs.length]'(by simp) = qv := by simp
      have e2 : (ns ++ [s])[qvs.length]'hk2 = s := by simp [h.ql]
      rw [e1, e2]
      exact (hq.mono (by omega)).eq (fun i hi => H2 i (hq.lt i hi).1 (hq.lt i hi).2)
  · rw [List.mem_append, List.mem_singleton] at hv
    rcases hv with hv | rfl
    · exact h.qs v hv o hvo
    · intro e
      have := (hq.lt o hvo).1
      have := (h.cbd.own.lt o e).2
      omega
  · refine ⟨hm.os.trans (hg.os.trans hb.os), hm.tape.trans (hg.tape.trans hb.tape), hm.output.trans (hg.output.trans hb.output), by omega, fun i hi hF => H1 i hi (fun e => hF (.inl e)) (fun e => hF (.inr (.inr (.inr (.inl e))))) (fun e => hF (.inr (.inr (.inl e))))⟩
  · rintro i (hi | hi | hi | hi | ⟨v, hv, hi⟩)
    · exact .inl (.inl hi)
    · exact .inl (.inr (.inl hi))
    · rcases hn with e | ⟨y, e, hy⟩
      · exact .inl (.inr (.inr (.inl (e ▸ hi))))
      · have := e.symm.trans hi; cases this; exact .inr (by omega)
    · exact .inl (.inr (.inr (.inr (.inl hi))))
    · rw [List.mem_append, List.mem_singleton] at hv
      rcases hv with hv | rfl
      · exact .inl (.inr (.inr (.inr (.inr ⟨v, hv, hi⟩))))
      · exact .inr (hq.lt i hi).1
theorem nms_split : ∀ s ∈ nms, (∀ i, i < s.size → ns s i = i → cpt s i ≠ 34 ∧ cpt s i ≠ 92) ∨ (∀ i, i < s.size → ns s i = i → cpt s i ≠ 233) := by decide +kernel
theorem nms_size : ∀ s ∈ nms, s.size ≤ 3 := by decide
theorem iqn_any (s : ByteArray) (asc : Bool) (w : World) (hs : s ∈ nms) : Calls Tryd.prog 44 #[.string s, .bool asc, .int .u8 34] w (IsQ s asc w) := by
  have hz := nms_size s hs
  have hc := nms_ok s hs
  rcases nms_split s hs with h | h
  · cases asc with
    | true => exact iq_et s w hc (by omega) h
    | false => exact iq_any s false w hc (by omega) (fun i _ _ e => by cases e.2)
  · exact iq_any s asc w hc (by omega) (fun i h1 h2 e => h i h1 h2 e.1)
set_option maxRecDepth 100000 in
theorem qj_any (s : ByteArray) (asc : Bool) (w : World) (hs : s ∈ nms) : Calls Tryd.prog 39 #[.string s, .bool asc] w (IsQ s asc w) := by
  have HS := Lib.hid hs
  clear hs
  go_enter Tryd.func39, Tryd.ntmps39
  go_wp2_with (go_at_call 44; refine (iqn_any s asc _ HS.out).mono ?_; rintro e w1 ⟨v, rfl, ho, hb⟩)
  go_ret
  exact ⟨v, rfl, ho, hb⟩
theorem amw_all (g : Nat) (x : Cb) (sm : Value) (q : Pq) (qvs : List Value) (ns ns' : List ByteArray) (bm : Nat) (asc : Bool) (u m : Nat) (gc ol oc : Int) (s : ByteArray) (nm : Option Nat) (w : World) (h : Bu w g x sm q qvs ns' bm asc) (hfn : Fno x.fno q ns) (hb : Qb q u m) (hu : u ≤ 4194304) (hm : m ≤ 1048576) (g0 : 0 ≤ gc) (g1 : gc ≤ 16777216) (l0 : 0 ≤ ol) (l1 : ol ≤ 4194304) (o0 : 0 ≤ oc) (o1 : oc ≤ 4194304) (hnm : Nmd ns s ns' nm) (hnk : Nok ns m) :
    Calls Tryd.prog 28 #[.pointer (some ⟨g, 0, none⟩), .agg (⟨q.gl, gc, 0, ol, oc, ((nm.getD 0 : Nat) : Int), nm.isSome⟩ : St).cells] w (IsBs w g x sm qvs bm asc (q.app gc ol oc nm) ns' x.lu x.pgl x.loc x.pon x.lot) := by
  have hle := hnk.le
  have hf0 : ns ≠ [] → x.fno ≠ 0 := by
    intro hne
    rcases hfn with ⟨h1, _⟩ | ⟨_, p, h2, h3, _⟩
    · exact absurd h1 hne
    · have := txt_len q.toks false hb.ok.wk
      have := hb.len
      omega
  cases hnm with
  | no h0 => exact bamw0 g x sm q qvs ns bm asc u m gc ol oc w h hfn hb hu (by omega) g0 g1 l0 l1 o0 o1
  | old k h0 h1 =>
    have hk := (List.getElem?_eq_some_iff.1 h1).1
    exact bamw1 g x sm q qvs ns bm asc u m gc ol oc k w h hfn hb hu (by omega) g0 g1 l0 l1 o0 o1 (by omega) (hf0 (fun e => by rw [e] at hk; simp at hk))
  | new h0 h1 =>
    by_cases hne : ns = []
    · subst hne
      rcases hfn with ⟨_, h2, h3⟩ | ⟨h2, _⟩
      · exact bamwF g x sm q qvs _ bm asc u m gc ol oc w h (by simp) h2 h3 hb hu (by omega) g0 g1 l0 l1 o0 o1
      · exact absurd rfl h2
    · have hfn2 : Fno x.fno q (ns ++ [s]) := by
        rcases hfn with ⟨h2, _⟩ | ⟨_, h2⟩
        · exact absurd h2 hne
        · exact .inr ⟨by simp, h2⟩
      exact bamw1 g x sm q qvs _ bm asc u m gc ol oc ns.length w h hfn2 hb hu (by omega) g0 g1 l0 l1 o0 o1 (by omega) (hf0 hne)
def P17 (w : World) (g b : Nat) (x : Cb) (sm : Value) (q : Pq) (qvs : List Value) (bm : Nat) (asc : Bool) (ns' : List ByteArray) (st : St) (wx : World) : Prop := ∃ qn' qvs', Bs w g x sm qvs bm asc wx { x with qn := qn' } sm q qvs' ns' ∧ Blk wx b 31 st.cells ∧ ¬ bfp g { x with qn := qn' } sm qvs' bm b
def IsApm (w : World) (g : Nat) (x : Cb) (sm : Value) (qvs : List Value) (bm : Nat) (asc : Bool) (q' : Pq) (ns' : List ByteArray) : Ending → World → Prop := IsBs w g x sm qvs bm asc q' ns' x.lu x.pgl x.loc x.pon x.lot
set_option maxRecDepth 100000 in
set_option maxHeartbeats 4000000 in
theorem apm_any (g : Nat) (x : Cb) (sm : Value) (q : Pq) (qvs : List Value) (ns ns' : List ByteArray) (bm : Nat) (asc : Bool) (u m : Nat) (gc ol oc : Int) (s : ByteArray) (nm : Option Nat) (w : World) (h : Bu w g x sm q qvs ns bm asc) (hfn : Fno x.fno q ns) (hb : Qb q u m) (hu : u ≤ 4194304) (hm : m ≤ 1048576) (g0 : 0 ≤ gc) (g1 : gc ≤ 16777216) (l0 : 0 ≤ ol) (l1 : ol ≤ 4194304) (o0 : 0 ≤ oc) (o1 : oc ≤ 4194304) (hs : s ∈ nms) (hnm : Nmd ns s ns' nm) (hnk : Nok ns m) :
    Calls Tryd.prog 29 #[.pointer (some ⟨g, 0, none⟩), .string s, .agg (⟨q.gl, gc, 0, ol, oc, 0, false⟩ : St).cells] w (IsApm w g x sm qvs bm asc (q.app gc ol oc nm) ns') := by
  have e0 := h.cbd.blk.cell 0
  have e2 := h.cbd.blk.cell 2
  have e3 := h.cbd.blk.cell 3
  have e19 := h.cbd.blk.cell 19
  have hgl := h.cbd.blk.lt
  simp only [up, Cb.cells] at e0 e2 e3 e19
  rw [h.ism] at e0
  rw [h.nm] at e3
  rw [h.as_] at e19
  have HH := Lib.hid (And.intro h (And.intro hfn (And.intro hb (And.intro hu (And.intro hm (And.intro hs (And.intro hnm (And.intro hnk (And.intro g0 (And.intro g1 (And.intro l0 (And.intro l1 (And.intro o0 o1)))))))))))))
  clear h hfn hb hu hm hs hnm hnk g0 g1 l0 l1 o0 o1
  unfold St.cells
  go_enter Tryd.func29, Tryd.ntmps29
  go_upto_region 1 with fail
  obtain ⟨b, hb⟩ : ∃ b, w.heap.size = b := ⟨_, rfl⟩
  rw [hb]
  have hbg : ¬ b = g := by omega
  have hga : w.grownBy (w.alloc (.cells (⟨q.gl, gc, 0, ol, oc, 0, false⟩ : St).cells 31)) none := World.grownBy_alloc _ _ _
  have HW : Hid (Bs w g x sm qvs bm asc (w.alloc (.cells (⟨q.gl, gc, 0, ol, oc, 0, false⟩ : St).cells 31)) x sm q qvs ns ∧ Blk (w.alloc (.cells (⟨q.gl, gc, 0, ol, oc, 0, false⟩ : St).cells 31)) b 31 (⟨q.gl, gc, 0, ol, oc, 0, false⟩ : St).cells ∧ ¬ bfp g x sm qvs bm b) := Lib.hid ⟨(Bs.refl HH.out.1).kept hga, by rw [← hb]; exact Blk.new w 31 _, fun e => by have := (HH.out.1.lt b e).1; omega⟩
  have HB0 := Lib.hid hb
  clear hga hb
  unfold St.cells at HW
  obtain ⟨W, hW⟩ : ∃ W, w.alloc (.cells #[.int .i64 q.gl, .int .i64 gc, .int .i64 0, .int .i64 ol, .int .i64 oc, .int .i64 0, .bool false] 31) = W := ⟨_, rfl⟩
  simp only at HW
  rw [hW] at HW ⊢
  clear hW e0 e2 e3 e19 hgl
  have e0 := HW.out.1.bu.cbd.blk.cell 0
  have e2 := HW.out.1.bu.cbd.blk.cell 2
  have e3 := HW.out.1.bu.cbd.blk.cell 3
  have e19 := HW.out.1.bu.cbd.blk.cell 19
  have hgl := HW.out.1.bu.cbd.blk.lt
  simp only [up, Cb.cells] at e0 e2 e3 e19
  rw [HH.out.1.ism] at e0
  rw [HH.out.1.nm] at e3
  rw [HH.out.1.as_] at e19
  go_upto_region 9 with fail
  go_cut [65] (fun y wx => BoW (decide (s.size ≠ 0)) W y wx)
  case first =>
    go_wp2_with fail
    go_meet
    refine ⟨?_, rfl⟩
    by_cases h0 : s.size = 0
    · rw [str_yes0 h0]; simp [h0]
    · rw [str_no0 h0]; simp [h0]
  case rest =>
  obtain ⟨rfl, hcw⟩ := hcut
  have hcw1 := hcw.symm
  subst hcw1
  clear hcw
  obtain ⟨nz, hnz⟩ : ∃ z, decide (s.size ≠ 0) = z := ⟨_, rfl⟩
  rw [hnz]
  have HNZ := Lib.hid hnz
  clear hnz
  go_upto_if 65 with fail
  go_cut [] (fun wx => P17 w g b x sm q qvs bm asc ns' ⟨q.gl, gc, 0, ol, oc, ((nm.getD 0 : Nat) : Int), nm.isSome⟩ wx)
  case first =>
    have hnn := HH.out.2.2.2.2.2.2.1
    have hnk := HH.out.2.2.2.2.2.2.2.1
    have hsz := nms_size s HH.out.2.2.2.2.2.1
    have hbk := HW.out.2.1
    have b5 := hbk.cell 5
    have b6 := hbk.cell 6
    have bf := hbk.free
    have hbl := hbk.lt
    simp at b5 b6
    obtain ⟨n0, D0, hmp, hkn, hn0⟩ := HW.out.1.bu.mp
    have hle := hnk.le
    have hm8 := HH.out.2.2.2.2.1
    have HMP := Lib.hid (And.intro hmp (And.intro hkn (And.intro hn0 hle)))
    cases hnn with
    | no h0 =>
      obtain rfl : nz = false := by rw [← HNZ.out]; simp [h0]
      clear e2 e3 e19
      go_wp2_with fail
      go_meet
      exact ⟨x.qn, qvs, HW.out.1, HW.out.2.1, HW.out.2.2⟩
    | old k h0 h1 =>
      obtain rfl : nz = true := by rw [← HNZ.out]; simp [h0]
      have hlk := look_old hmp hkn (by unfold maxLen; omega) h1
      have hk := (List.getElem?_eq_some_iff.1 h1).1
      have hk2 : k < 4294967296 := by omega
      have hk3 : k ≤ 1048576 := by omega
      clear hmp hkn hn0 h0 h1 hle
      go_wp2_with fail
      go_meet
      have hgb := HH.out.1.cbd.blk.lt
      exact ⟨x.qn, qvs, HW.out.1.setNew (gb_set (gb_set (gb_refl W (some b)) 5 none _) 6 none _) (by have := HB0.out; omega) (by have := HB0.out; omega) HW.out.2.2, (hbk.set 5 _).set 6 _, HW.out.2.2⟩
    | new h0 h1 =>
      obtain rfl : nz = true := by rw [← HNZ.out]; simp [h0]
      obtain ⟨xx, hlk⟩ := look_new hmp hkn (by unfold maxLen; omega) h1
      obtain ⟨N, hN⟩ : ∃ N, ns.length = N := ⟨_, rfl⟩
      obtain ⟨qao, qcap, hqn, _⟩ := HW.out.1.bu.qn.form
      have hql : (qvs.map fun x => [x]).length = N := by rw [List.length_map, HW.out.1.bu.ql, hN]
      rw [hql] at hqn
      rw [hqn] at e2
      rw [hN] at hle
      have HN := Lib.hid (And.intro hN (And.intro hqn (And.intro h1 hql)))
      have hbk' := Lib.hid hbk
      have hNl : N < 4294967296 := by omega
      have hNl2 : N ≤ 1048576 := by omega
      clear hmp hkn hn0 h0 h1 hN hqn hql hbk
      go_upto_region 13 with fail
      go_cut [] (fun wx => ∃ qv v' w1 w4, Hid (Below W.heap.size W w1 ∧ Own .u8 5 w1 W.heap.size qv (qt s asc) ∧ w1.grownBy w4 x.qn.ownBlock ∧ OwnT 22 1 w4 (g + 1) v' (qvs.map (fun x => [x]) ++ [[qv]]) ∧ (v'.ownBlock = x.qn.ownBlock ∨ ∃ y, v'.ownBlock = some y ∧ w1.heap.size ≤ y) ∧ wx = w4.setCell ⟨g, 2, none⟩ v'))
      case first =>
        have HG4 : Hid (∀ (w1 w4 : World) (o : Obj), Blk w1 g 61 (up x sm q).cells → (w1.alloc o).grownBy w4 (Value.slice qao N qcap).ownBlock → w4.cell? ⟨g, 2, none⟩ = some (.slice qao N qcap) ∧ w4.frozen? ⟨g, 2, none⟩ = false) := Lib.hid (fun w1 w4 o hb hg => by
          have hne : (Value.slice qao N qcap).ownBlock ≠ some g := fun e => by have := (HW.out.1.bu.qn.lt g (by rw [HN.out.2.1]; exact e)).1; omega
          have hb4 : Blk w4 g 61 (up x sm q).cells := (hb.alloc o).gb hg (fun e => hne e.symm)
          have := hb4.cell 2
          simp only [up, Cb.cells] at this
          rw [HN.out.2.1] at this
          exact ⟨this, hb4.free 2⟩)
        have HC : Hid (∀ w1 : World, Below W.drew.heap.size W.drew w1 → w1.cell? ⟨g, 2, none⟩ = some (.slice qao N qcap) ∧ w1.cell? ⟨g, 19, none⟩ = some (.bool asc) ∧ g + 1 ≤ w1.heap.size ∧ Own1 22 w1 (g + 1) x.qn qvs ∧ Blk w1 g 61 (up x sm q).cells) := Lib.hid (fun w1 hb => by
          have hb' : Below W.heap.size W w1 := ⟨hb.os, hb.tape, hb.output, hb.size, hb.block⟩
          have hblk := HW.out.1.bu.cbd.blk.kept hb'
          exact ⟨(hb'.cell (p := ⟨g, 2, none⟩) hgl).trans e2, (hb'.cell (p := ⟨g, 19, none⟩) hgl).trans e19, by have := hb'.size; omega, HW.out.1.bu.qn.kept hb', hblk⟩)
        have hBn : Hid (((qvs.map fun x => [x]).length + 1 ≤ maxLen ∧ ((qvs.map fun x => [x]).length + 1) * 24 ≤ 140737488355328) ∧ g + 1 ≤ W.heap.size) := Lib.hid (by rw [HN.out.2.2.2]; unfold maxLen; omega)
        go_region_law (first
          | (refine step_pushT rfl (.tmp 87) (.tmp 94) 29 22 1 rfl (g + 1) Tryd.underlying29 24 (.slice none 0 0) rfl (by omega) info22 (.slice qao N qcap) (qvs.map fun x => [x]) [.slice qa qn qc] (by simp [Act.eval, Act.put]) (by rw [← HN.out.2.1]; exact OwnT.gb H1.out.2.2.1 (World.grownBy_alloc _ _ none) (Classical.em _)) w1.heap.size (by simp [Act.eval, Act.put]) (Blk.new _ _ _) rfl (by intro u hu; simp at hu; subst hu; rfl) hBn.out.1.1 hBn.out.1.2 (by have := H1.out.2.1.size; have := hBn.out.2; simp at this ⊢; omega) ?_; intro v' w4 ho4 hg4 hv4; obtain ⟨va, vn, vc, hvv⟩ := ho4.slice; subst hvv; have hS4 := HG4.out w1 w4 _ H1.out.2.2.2 hg4; have s4 := hS4.1; have f4 := hS4.2; have H4 := Lib.hid (And.intro ho4 (And.intro hg4 hv4)); clear ho4 hg4 hv4 hS4)
          | (refine step_call rfl 39 #[.string s, .bool asc] (by simp [execOp, Act.eval, Act.put, resolve, go_sem]) (qj_any s asc _ HH.out.2.2.2.2.2.1) ?_; rintro e w1 ⟨qv, rfl, hq1, hb1⟩; obtain ⟨c2, c19, hl1, hqn1, hbk1⟩ := HC.out w1 hb1; obtain ⟨qa, qn, qc, hqv⟩ := own_slice hq1; subst hqv; have c2a := gb_cell (World.grownBy_alloc w1 (.cells #[.slice qa qn qc] 22) none) (by simp) c2; have H1 := Lib.hid (And.intro hq1 (And.intro hb1 (And.intro hqn1 hbk1))); clear hq1 hb1 hqn1 hbk1; refine ⟨_, rfl, ?_⟩))
        all_goals
          go_wp2_with fail
          go_meet
          have hga : w1.grownBy w4 x.qn.ownBlock := gb_trans (World.grownBy_alloc w1 _ _) (by rw [HN.out.2.1]; exact H4.out.2.1)
          refine ⟨.slice qa qn qc, .slice va vn vc, w1, w4, Lib.hid ⟨⟨H1.out.2.1.os, H1.out.2.1.tape, H1.out.2.1.output, H1.out.2.1.size, H1.out.2.1.block⟩, H1.out.1, hga, H4.out.1, ?_, rfl⟩⟩
          rw [HN.out.2.1]
          exact H4.out.2.2.imp id (fun e => ⟨_, e, by simp⟩)
      case rest =>
        obtain ⟨qv, v', w1, w4, HR⟩ := hcut
        have hgl1 := HR.out.1.size
        have hgl4 := HR.out.2.2.1.size
        have hbmg := HW.out.1.bu.bg
        have hqng : ∀ i, x.qn.ownBlock = some i → g + 1 ≤ i ∧ i < W.heap.size := fun i hi => HW.out.1.bu.qn.lt i hi
        have hkeep : ∀ i, i < W.heap.size → i ≠ g → x.qn.ownBlock ≠ some i → wc.heap[i]? = W.heap[i]? := fun i hi h1 h2 => by
          rw [HR.out.2.2.2.2.2]
          exact (Below.heap_setCell _ _ _ _ h1).trans ((HR.out.2.2.1.block i (by omega) (fun e => h2 e.symm)).trans (HR.out.1.block i hi))
        have hmp5 : Mp wc bm n0 D0 := HMP.out.1.eq (hkeep bm (by omega) (by omega) (fun e => by have := (hqng bm e).1; omega))
        obtain ⟨w6, hpu, hmp6, hg6⟩ := put_at (t := s) (i := N) hmp5 (by have := HMP.out.2.2.1; have := HN.out.1; unfold maxLen; omega) (by unfold maxLen; omega) (by omega)
        have hq5 : wc.cell? ⟨g, 3, none⟩ = some (.map (some bm)) := by
          rw [HR.out.2.2.2.2.2]
          have hb1 := HW.out.1.bu.cbd.blk.kept HR.out.1
          have hb4 := (hb1.gb HR.out.2.2.1 (fun e => by have := (hqng g e.symm).1; omega)).set 2 v'
          have := hb4.cell 3
          rw [cells_qn] at this
          simp only [up, Cb.cells] at this
          rw [HH.out.1.nm] at this
          exact this
        have hbqn : x.qn.ownBlock ≠ some b := fun e => HW.out.2.2 (.inr (.inr (.inl e)))
        have hbb5 : Blk wc b 31 (⟨q.gl, gc, 0, ol, oc, 0, false⟩ : St).cells := (hkeep b hbl hbg hbqn).trans hbk'.out
        have hbb6 : Blk w6 b 31 (⟨q.gl, gc, 0, ol, oc, 0, false⟩ : St).cells := hbb5.gb hg6 (fun e => by have := Option.some.inj e; exact HW.out.2.2 (.inr (.inr (.inr (.inl this)))))
        have hbu : Bs W g x sm qvs bm asc w6 { x with qn := v' } sm q (qvs ++ [qv]) (ns ++ [s]) := by
          have hk' := HMP.out.2.1.snoc (t := s) (by unfold maxLen; omega) HN.out.2.2.1
          rw [HN.out.1] at hk'
          refine HW.out.1.bu.name HR.out.1 HR.out.2.1 HR.out.2.2.1 HR.out.2.2.2.1 HR.out.2.2.2.2.1 (by rw [← HR.out.2.2.2.2.2]; exact hg6) hmp6 hk' ?_
          have := HMP.out.2.2.1
          simp; omega
        have hgw : g < wc.heap.size := by rw [HR.out.2.2.2.2.2]; simp [World.setCell]; omega
        have c5 := hbb6.cell 5
        have c6 := hbb6.cell 6
        have cf := hbb6.free
        have cl := hbb6.lt
        simp [St.cells] at c5 c6
        have HF := Lib.hid (And.intro hbu hbb6)
        clear hkeep hmp5 hmp6 hg6 hbb5 hbb6 hbu hqng hbqn b5 b6 bf e0 e2 e3 e19
        go_wp2_with fail
        go_meet
        have hgb := HH.out.1.cbd.blk.lt
        have hap := HF.out.1.apart HW.out.2.2 hbl
        refine ⟨v', qvs ++ [qv], (HW.out.1.trans HF.out.1).setNew (gb_set (gb_set (gb_refl w6 (some b)) 5 none _) 6 none _) (by have := HB0.out; omega) (by have := HB0.out; omega) hap, ?_, hap⟩
        have hbf := (HF.out.2.set 5 (.int .i64 N)).set 6 (.bool true)
        rw [← HN.out.1] at hbf
        rw [← HN.out.1]
        exact hbf
  case rest =>
  obtain ⟨qn', qvs', hs, hbk, hnb⟩ := hcut
  have HS := Lib.hid (And.intro hs (And.intro hbk hnb))
  have b0 := hbk.cell 0
  have b1 := hbk.cell 1
  have b2 := hbk.cell 2
  have b3 := hbk.cell 3
  have b4 := hbk.cell 4
  have b5 := hbk.cell 5
  have b6 := hbk.cell 6
  have hbl := hbk.lt
  have hgl := hs.bu.cbd.blk.lt
  simp [St.cells] at b0 b1 b2 b3 b4 b5 b6
  clear hs hbk hnb
  have HP := Lib.hid (amw_all g { x with qn := qn' } sm q qvs' ns ns' bm asc u m gc ol oc s nm wc HS.out.1.bu HH.out.2.1 HH.out.2.2.1 HH.out.2.2.2.1 HH.out.2.2.2.2.1 HH.out.2.2.2.2.2.2.2.2.1 HH.out.2.2.2.2.2.2.2.2.2.1 HH.out.2.2.2.2.2.2.2.2.2.2.1 HH.out.2.2.2.2.2.2.2.2.2.2.2.1 HH.out.2.2.2.2.2.2.2.2.2.2.2.2.1 HH.out.2.2.2.2.2.2.2.2.2.2.2.2.2 HH.out.2.2.2.2.2.2.1 HH.out.2.2.2.2.2.2.2.1)
  unfold St.cells at HP
  go_wp2_with (go_at_call 28; (refine HP.out.mono ?_; rintro e w8 ⟨x', sm', qvs8, rfl, hs8, h81, h82, h83, h84, h85, h86⟩; have H8 := Lib.hid (And.intro (HS.out.1.trans hs8) (And.intro h81 (And.intro h82 (And.intro h83 (And.intro h84 (And.intro h85 h86)))))); clear hs8 h81 h82 h83 h84 h85 h86))
  go_end0
  exact ⟨x', sm', qvs8, rfl, H8.out.1, H8.out.2.1, H8.out.2.2.1, H8.out.2.2.2.1, H8.out.2.2.2.2.1, H8.out.2.2.2.2.2.1, H8.out.2.2.2.2.2.2⟩
end Go.Proofs.YtfbeeekakfllpaaDoor
