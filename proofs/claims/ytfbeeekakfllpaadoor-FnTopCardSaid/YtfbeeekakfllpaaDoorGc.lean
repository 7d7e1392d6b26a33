/-
  (*ChunkBuilder).GenerateChunk. No statement of the seat is proved here.
-/
import Derived.Test.YtfbeeekakfllpaaDoorBu
import Derived.Test.YtfbeeekakfllpaaDoorAd
import Derived.Deep.CutBlock
import Derived.Deep.Light
import Derived.StillTailTactics
namespace Go.Proofs.YtfbeeekakfllpaaDoor
open Go.RowKit Go.Maps
set_option linter.unusedVariables false
set_option linter.unusedSimpArgs false
theorem txt_all59 : ∀ (l : List Tk) (p : Bool), sgs l = 0 → ∀ c ∈ txt p l, c = 59
  | [], p, _, c, hc => by simp [txt] at hc
  | .nl :: t, p, h, c, hc => by
    simp only [txt, List.mem_cons] at hc
    rcases hc with rfl | hc
    · rfl
    · exact txt_all59 t false h c hc
  | .seg ds :: t, p, h, c, hc => by simp [sgs] at h
theorem txt_some : ∀ (l : List Tk) (p : Bool), Wk l → sgs l ≠ 0 → ∃ c ∈ txt p l, c ≠ 59
  | [], p, _, h => absurd rfl h
  | .nl :: t, p, hw, h => by
    obtain ⟨c, h1, h2⟩ := txt_some t false hw h
    exact ⟨c, by simp [txt, h1], h2⟩
  | .seg ds :: t, p, hw, h => by
    have hl := (encs_len ds).1
    have hd := hw.1
    obtain ⟨c, hc⟩ := List.exists_mem_of_length_pos (l := encs ds) (by omega)
    exact ⟨c, by simp [txt, hc], (encs_ok ds c hc).2.2.2⟩
/-- the chunk -/
def chk (x : Cb) (sm : Value) (q : Pq) (ign : Bool) : Array Value := #[sm, .int .u32 x.fno, x.qn, .int .i64 q.gl, .int .i64 q.gc, .int .i64 0, .int .i64 q.ol, .int .i64 q.oc, .int .i64 q.on, .bool q.hn, .int .i64 q.gcol, .bool ign]
def IsGen (w : World) (g : Nat) (x : Cb) (sm : Value) (qvs : List Value) (bm : Nat) (asc : Bool) (q' : Pq) (ns : List ByteArray) (e : Ending) (w' : World) : Prop := ∃ x' sm' qvs', e = .returned (.agg (chk x' sm' q' (decide (sgs q'.toks = 0)))) ∧ Bs w g x sm qvs bm asc w' x' sm' q' qvs' ns ∧ Fno x'.fno q' ns
theorem info33 : (Tryd.prog.info? 33).map (·.size) = some 12 := by kernel_rfl
theorem Bs.apart {w w' : World} {g : Nat} {x x' : Cb} {sm sm' : Value} {q' : Pq} {qvs qvs' : List Value} {ns' : List ByteArray} {bm : Nat} {asc : Bool} (h : Bs w g x sm qvs bm asc w' x' sm' q' qvs' ns') {b : Nat} (hb : ¬ bfp g x sm qvs bm b) (hl : b < w.heap.size) : ¬ bfp g x' sm' qvs' bm b := fun e => by
  rcases h.nw b e with e | e
  · exact hb e
  · omega
theorem Bs.setNew {w w' : World} {g : Nat} {x x' : Cb} {sm sm' : Value} {q' : Pq} {qvs qvs' : List Value} {ns' : List ByteArray} {bm : Nat} {asc : Bool} (h : Bs w g x sm qvs bm asc w' x' sm' q' qvs' ns') {w2 : World} {b : Nat} (hg : w'.grownBy w2 (some b)) (hb : w.heap.size ≤ b) (hgb : g < b) (hn : ¬ bfp g x' sm' qvs' bm b) : Bs w g x sm qvs bm asc w2 x' sm' q' qvs' ns' :=
  ⟨h.bu.eq (fun i hi => hg.block i (h.bu.lt i hi).1 (fun e => by cases e; exact hn hi)) ((Below.refl _ _).grown hg (Nat.le_of_lt h.bu.cbd.blk.lt) (fun k e => by cases e; omega)), h.ch.gb hg (fun i e hl => by cases e; omega), h.nw⟩
set_option maxRecDepth 100000 in
set_option maxHeartbeats 4000000 in
theorem gen_any (g : Nat) (x : Cb) (sm v : Value) (q : Pq) (qvs : List Value) (ns : List ByteArray) (bm : Nat) (asc : Bool) (u m : Nat) (T : ByteArray) (w : World) (h : Bu w g x sm q qvs ns bm asc) (hfn : Fno x.fno q ns) (hlu : x.lu = (u : Nat)) (ho : OutV v u T w) (hof : ∀ o, v.ownBlock = some o → ¬ bfp g x sm qvs bm o) (hcz : u + T.size ≤ 4194304) (hb : Qb q u m) (hm : m ≤ 1048576) :
    Calls Tryd.prog 17 #[.pointer (some ⟨g, 0, none⟩), v] w (IsGen w g x sm qvs bm asc (runQ T q T.size) ns) := by
  have HH := Lib.hid (And.intro h (And.intro hfn (And.intro hlu (And.intro ho (And.intro hof (And.intro hcz (And.intro hb hm)))))))
  obtain ⟨ao, n, cap, hv⟩ : ∃ ao n cap, v = .slice ao n cap := by
    rcases ho with ⟨h1, _⟩ | ⟨o, cap, h1, _⟩
    · exact ⟨_, _, _, h1⟩
    · exact ⟨_, _, _, h1⟩
  subst hv
  clear h hfn hlu ho hof hb
  go_enter Tryd.func17, Tryd.ntmps17
  go_upto_region 1 with fail
  obtain ⟨c, hc⟩ : ∃ c, w.heap.size = c := ⟨_, rfl⟩
  rw [hc]
  obtain ⟨W, hW⟩ : ∃ W, w.alloc (.cells #[.slice none 0 0, .int .u32 0, .slice none 0 0, .int .i64 0, .int .i64 0, .int .i64 0, .int .i64 0, .int .i64 0, .int .i64 0, .bool false, .int .i64 0, .bool false] 33) = W := ⟨_, rfl⟩
  rw [hW]
  have hga : w.grownBy W none := by rw [← hW]; exact World.grownBy_alloc _ _ _
  have hbk : Blk W c 33 #[.slice none 0 0, .int .u32 0, .slice none 0 0, .int .i64 0, .int .i64 0, .int .i64 0, .int .i64 0, .int .i64 0, .int .i64 0, .bool false, .int .i64 0, .bool false] := by rw [← hW, ← hc]; exact Blk.new w 33 _
  have hch : Ch (fun _ => False) w W := ⟨hga.os, hga.tape, hga.output, hga.size, fun i hi _ => hga.block i hi (by simp)⟩
  have HW := Lib.hid (And.intro ((Bs.refl HH.out.1).kept hga) (And.intro (HH.out.2.2.2.1.ch hch (fun o _ e => e)) (And.intro hbk hc)))
  clear hW hga hbk hch hc
  go_upto_region 2 with (go_at_call 27; (refine (bupd g x sm _ q qvs ns bm asc u m T W HW.out.1.bu HH.out.2.1 HH.out.2.2.1 HW.out.2.1 HH.out.2.2.2.2.1 HH.out.2.2.2.2.2.1 HH.out.2.2.2.2.2.2.1 HH.out.2.2.2.2.2.2.2).mono ?_; rintro e w1 ⟨x', sm', qvs', rfl, hs, _, _, _, _, _, hf'⟩; have H1 := Lib.hid (And.intro (HW.out.1.trans hs) (And.intro hf' (And.intro (hs.ch.blk HW.out.2.2.1 (fun e => by have := (HH.out.1.lt c e).1; have := HW.out.2.2.2; omega)) (hs.apart (fun e => by have := (HH.out.1.lt c e).1; have := HW.out.2.2.2; omega) HW.out.2.2.1.lt)))); clear hs hf'))
  obtain ⟨q', hq'⟩ : ∃ q', runQ T q T.size = q' := ⟨_, rfl⟩
  have HQ := Lib.hid hq'
  have HQB : Hid (Qb q' (u + T.size) m) := Lib.hid (by rw [← hq']; exact HH.out.2.2.2.2.2.2.1.run T T.size HH.out.2.2.2.2.2.1)
  rw [hq'] at H1 ⊢
  clear hq'
  obtain ⟨N, hN⟩ : ∃ N, (txt false q'.toks).length = N := ⟨_, rfl⟩
  obtain ⟨sao, scap, hsm, hsin, hscap, _⟩ := H1.out.1.bu.cbd.own.form
  have hsm' : sm' = .slice sao (txt false q'.toks).length scap := hsm
  have hsin' : In .u8 w1 sao (txt false q'.toks) := hsin
  have hNl : N ≤ 1073741000 := by have := txt_len q'.toks false HQB.out.ok.wk; have := HQB.out.len; have := HH.out.2.2.2.2.2.1; have := HH.out.2.2.2.2.2.2.2; omega
  rw [hN] at hsm'
  have e1 := H1.out.1.bu.cbd.blk.cell 1
  have hgl := H1.out.1.bu.cbd.blk.lt
  have HS := Lib.hid (And.intro hsm' (And.intro hsin' hN))
  simp only [up, Cb.cells] at e1
  have e1' : w1.cell? ⟨g, 1, none⟩ = some (.slice sao N scap) := by rw [← hsm']; exact e1
  clear e1 hsm hsin hscap hsm' hsin' hN
  go_upto_block 0 with fail
  go_cut [5] (fun y wx => y = .bool (decide (sgs q'.toks = 0)) ∧ wx = w1)
  case first =>
    go_wp2_with fail
    go_loopg [5, 16] N (fun k y z wx => ∃ i : Nat, i ≤ N ∧ N - i ≤ k ∧ y = .bool true ∧ z = .int .i64 i ∧ Hid (∀ j, j < i → nth (txt false q'.toks) j = 59) ∧ wx = w1)
    case atStart => exact ⟨0, Nat.zero_le _, by omega, rfl, rfl, Lib.hid (fun j hj => absurd hj (by omega)), rfl⟩
    case round =>
      obtain ⟨i, hi, hik, rfl, rfl, HJ, hwx⟩ := hrel
      rw [hwx]
      rcases (show i = N ∨ i < N by omega) with rfl | hlt
      · go_wp2_with fail
        go_meet
        refine ⟨?_, rfl⟩
        by_cases h0 : sgs q'.toks = 0
        · simp [h0]
        · obtain ⟨cc, hc1, hc2⟩ := txt_some q'.toks false HQB.out.ok.wk h0
          obtain ⟨j, hj, rfl⟩ := List.getElem_of_mem hc1
          exact absurd (by rw [← nth_get _ j hj]; exact HJ.out j (by have := HS.out.2.2; omega)) hc2
      · obtain ⟨qq, off, hx, hql, hcl⟩ := HS.out.2.1.at (i := i) (by have := HS.out.2.2; omega)
        subst hx
        by_cases h59 : nth (txt false q'.toks) i = 59
        · rw [h59] at hcl
          have HJ2 : Hid (∀ j, j < i + 1 → nth (txt false q'.toks) j = 59) := Lib.hid (fun j hj => by
            rcases (show j < i ∨ j = i by omega) with h | rfl
            · exact HJ.out j h
            · exact h59)
          clear h59
          go_wp2_with fail
          go_roundg (N - (i + 1))
          case measure => omega
          case rel => exact ⟨i + 1, by omega, Nat.le_refl _, rfl, by go_num, HJ2, rfl⟩
        · have n59 : (nth (txt false q'.toks) i != 59) = true := bne_iff_ne.2 h59
          have HD : Hid (decide (sgs q'.toks = 0) = false) := Lib.hid (decide_eq_false (fun h0 => h59 (txt_all59 q'.toks false h0 _ (nth_mem _ _ (by have := HS.out.2.2; omega)))))
          generalize nth (txt false q'.toks) i = z0 at *
          clear h59
          go_wp2_with fail
          go_meet
          exact ⟨by rw [HD.out], rfl⟩
  case rest =>
    obtain ⟨rfl, hwx⟩ := hcut
    rw [hwx]
    clear e1'
    have e1 := H1.out.1.bu.cbd.blk.cell 1
    have e2 := H1.out.1.bu.cbd.blk.cell 2
    have e6 := H1.out.1.bu.cbd.blk.cell 6
    have e7 := H1.out.1.bu.cbd.blk.cell 7
    have e8 := H1.out.1.bu.cbd.blk.cell 8
    have e9 := H1.out.1.bu.cbd.blk.cell 9
    have e10 := H1.out.1.bu.cbd.blk.cell 10
    have e11 := H1.out.1.bu.cbd.blk.cell 11
    have e12 := H1.out.1.bu.cbd.blk.cell 12
    have e14 := H1.out.1.bu.cbd.blk.cell 14
    have e17 := H1.out.1.bu.cbd.blk.cell 17
    have hbk := H1.out.2.2.1
    have hcl := hbk.lt
    simp only [up, Cb.cells] at e1 e2 e6 e7 e8 e9 e10 e11 e12 e14 e17
    have HBK := Lib.hid hbk
    obtain ⟨qao, qn, qcap, hqn⟩ := OwnT.slice H1.out.1.bu.qn
    replace e1 : w1.cell? ⟨g, 1, none⟩ = some (.slice sao N scap) := by rw [← HS.out.1]; exact e1
    replace e2 : w1.cell? ⟨g, 2, none⟩ = some (.slice qao qn qcap) := by rw [← hqn]; exact e2
    have HQN := Lib.hid hqn
    clear hbk hqn
    go_upto_region 9 with fail
    go_still_tail 23, (by kernel_rfl)
    change wpList _ _ _ _ _ w1.drew
    have HCK : Hid (chk x' sm' q' (decide (sgs q'.toks = 0)) = #[.slice sao N scap, .int .u32 x'.fno, .slice qao qn qcap, .int .i64 q'.gl, .int .i64 q'.gc, .int .i64 0, .int .i64 q'.ol, .int .i64 q'.oc, .int .i64 q'.on, .bool q'.hn, .int .i64 q'.gcol, .bool (decide (sgs q'.toks = 0))]) := Lib.hid (by unfold chk; rw [HS.out.1, HQN.out])
    clear e1 e2 e6 e7 e8 e9 e10 e11 e12 e14 e17
    refine wpList_store_blk rfl 33 _ _ rfl c _ #[.slice sao N scap, .int .u32 x'.fno, .slice qao qn qcap, .int .i64 q'.gl, .int .i64 q'.gc, .int .i64 0, .int .i64 q'.ol, .int .i64 q'.oc, .int .i64 q'.on, .bool q'.hn, .int .i64 q'.gcol, .bool (decide (sgs q'.toks = 0))] HBK.out.drew rfl rfl rfl info33 (by simp [Value.oneCell']) ?_
    intro w5 hb5 hg5
    go_wp2_with fail
    rw [HQ.out]
    refine bodyPost_ret (v := .agg #[.slice sao N scap, .int .u32 x'.fno, .slice qao qn qcap, .int .i64 q'.gl, .int .i64 q'.gc, .int .i64 0, .int .i64 q'.ol, .int .i64 q'.oc, .int .i64 q'.on, .bool q'.hn, .int .i64 q'.gcol, .bool (decide (sgs q'.toks = 0))]) (results_cell_row (d := _) Tryd.results17 _ _ c 33 _ (0, 0) (by rfl) hb5 Tryd.underlying33 rfl info33) rfl ⟨x', sm', qvs', by rw [HCK.out], ?_, H1.out.2.1⟩
    exact (H1.out.1.kept (gb_drewN w1 1)).setNew hg5 (by have := HW.out.2.2.2; omega) (by have := HH.out.1.cbd.blk.lt; have := HW.out.2.2.2; omega) H1.out.2.2.2
end Go.Proofs.YtfbeeekakfllpaaDoor
