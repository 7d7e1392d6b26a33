/-
  The css lexer's Tokenize and zzTokenize on texts without slash, backslash, quote or opening parenthesis. No statement of the seat is proved here.
-/
import Derived.Test.YtlbpplkanogkgaaDoorNextAny
import Derived.Test.YtlbpplkanogkgaaDoorCssTks
import Derived.Test.YtlbpplkanogkgaaDoorReg
import Derived.Deep.CutBlock
import Derived.Deep.DeepCutAuto
import Derived.Deep.LoopGhost
import Derived.Laws.EntriesVeiled
namespace Go.Proofs.YtlbpplkanogkgaaDoor
open Go.RowKit
set_option linter.unusedVariables false
noncomputable def cTk (s : ByteArray) (r : Bool) : Array Value := cellsOf ((Instr.build 93 #[(0, .agg #[.bool r]), (1, .agg #[.nilFunc, .nilFunc, .nilFunc, .nilFunc, .int .i8 0, .map none]), (2, .agg (cSrc s)), (6, .agg #[.string s, .string ByteArray.empty, .string ByteArray.empty, .int .i32 0, .int .i32 0, .int .i32 0, .int .i32 0, .bool true, .bool false, .bool true])]).run Tryd.prog default)
theorem cBuildTk (s : ByteArray) (r : Bool) (w : World) : (Instr.build 93 #[(0, .agg #[.bool r]), (1, .agg #[.nilFunc, .nilFunc, .nilFunc, .nilFunc, .int .i8 0, .map none]), (2, .agg (cSrc s)), (6, .agg #[.string s, .string ByteArray.empty, .string ByteArray.empty, .int .i32 0, .int .i32 0, .int .i32 0, .int .i32 0, .bool true, .bool false, .bool true])]).run Tryd.prog w = .ok (.agg (cTk s r)) w := by kernel_rfl
theorem css_of_tk (s : ByteArray) (r : Bool) {w : World} {p : Nat} (h : Blk w p 93 (cTk s r)) : Css w p (fresh s r) :=
  ⟨_, h, by kernel_rfl, by kernel_rfl, by kernel_rfl, by kernel_rfl, by kernel_rfl, by kernel_rfl, by kernel_rfl, by kernel_rfl, by kernel_rfl, by kernel_rfl, by kernel_rfl, by kernel_rfl, by kernel_rfl, by kernel_rfl, by kernel_rfl, by kernel_rfl⟩
theorem cSrc_size (s : ByteArray) : (cSrc s).size = 10 := by kernel_rfl
theorem cSrc0 (s : ByteArray) : (cSrc s)[0]? = some (.string ByteArray.empty) := by kernel_rfl
theorem cSrc1 (s : ByteArray) : (cSrc s)[1]? = some (.string ByteArray.empty) := by kernel_rfl
theorem cSrc3 (s : ByteArray) : (cSrc s)[3]? = some (.string s) := by kernel_rfl
def z7 : Array Value := #[Value.slice none 0 0, Value.slice none 0 0, Value.slice none 0 0, Value.string { data := #[] }, Value.int IntKind.i32 0, Value.int IntKind.i32 0, Value.int IntKind.i32 0]
def AtLexer (s : ByteArray) (r : Bool) (w : World) (v : Value) (wc : World) : Prop := ∃ p, v = .pointer (some ⟨p, 0, none⟩) ∧ Css wc p (fresh s r) ∧ w.heap.size + 1 + 1 + 1 < p ∧ Below w.heap.size w wc ∧ Blk wc (w.heap.size + 1 + 1 + 1) 101 z7
noncomputable def zc93 : Array Value := cellsOf ((zeroValue 93).run Tryd.prog default)
theorem alloc93 (w : World) : (Instr.alloc 93 true (.tuple #[])).run Tryd.prog w = .ok (.pointer (some ⟨w.heap.size, 0, none⟩)) (w.alloc (.cells zc93 93)) := by kernel_rfl
theorem tk_size (s : ByteArray) (r : Bool) : zc93.size = (cTk s r).size := by kernel_rfl
theorem tk_info (s : ByteArray) (r : Bool) : (Tryd.prog.info? 93).map (·.size) = some (cTk s r).size := by kernel_rfl
theorem tk_one (s : ByteArray) (r : Bool) : (cTk s r).all (·.oneCell') = true := by kernel_rfl
set_option maxRecDepth 100000 in
set_option maxHeartbeats 1000000 in
theorem tracker0 (p : Nat) (s a b : ByteArray) (w : World) (h10 : w.cell? ⟨p, 3, none⟩ = some (.string s)) (h7 : w.cell? ⟨p, 0, none⟩ = some (.string a)) (h8 : w.cell? ⟨p, 1, none⟩ = some (.string b)) : Calls Tryd.prog 70 #[.pointer (some ⟨p, 0, none⟩)] w fun r w' => r = .returned (.agg #[.string s, .string a, .string b, .int .i32 0, .int .i32 0, .int .i32 0, .int .i32 0, .bool true, .bool false, .bool true]) ∧ Below w.heap.size w w' := by
  have hp := World.block_lt_of_cell? w _ h10
  go_enter Tryd.func70, Tryd.ntmps70
  go_wp2
  go_region
  go_wp2
  exact bodyPost_ret (v := .agg #[.string s, .string a, .string b, .int .i32 0, .int .i32 0, .int .i32 0, .int .i32 0, .bool true, .bool false, .bool true]) (by simp [results, Tryd.results70, go_sem]) rfl ⟨rfl, ((Below.refl _ _).alloc (Nat.le_refl _) _).drew⟩
/-- what the region of the lexer's making keeps -/
def Sr (s : ByteArray) (r : Bool) (n : Nat) (w wr : World) : Prop := Blk wr n 38 #[.nilFunc, .nilFunc, .nilFunc, .nilFunc, .int .i8 0, .map none] ∧ Blk wr (n + 1) 47 (cSrc s) ∧ Blk wr (n + 1 + 1) 90 #[.bool r] ∧ Below n w wr ∧ Blk wr (n + 1 + 1 + 1) 101 z7
theorem Sr.kept {s : ByteArray} {r : Bool} {n : Nat} {w w1 w2 : World} (h : Sr s r n w w1) (hb : Below w1.heap.size w1 w2) : Sr s r n w w2 := by
  obtain ⟨h1, h2, h3, h4, h5⟩ := h
  exact ⟨h1.kept hb, h2.kept hb, h3.kept hb, h4.trans (hb.mono (by have := h5.lt; omega)), h5.kept hb⟩
theorem Sr.gb {s : ByteArray} {r : Bool} {n p : Nat} {w w1 w2 : World} (h : Sr s r n w w1) (hb : w1.grownBy w2 (some p)) (hp : n + 1 + 1 + 1 < p) : Sr s r n w w2 := by
  obtain ⟨h1, h2, h3, h4, h5⟩ := h
  exact ⟨h1.gb hb (by simp; omega), h2.gb hb (by simp; omega), h3.gb hb (by simp; omega), below_gb h4 hb (by have := h5.lt; omega) (by omega), h5.gb hb (by simp; omega)⟩
theorem Sr.drew {s : ByteArray} {r : Bool} {n : Nat} {w wr : World} (h : Sr s r n w wr) : Sr s r n w wr.drew := ⟨h.1, h.2.1, h.2.2.1, h.2.2.2.1.drew, h.2.2.2.2⟩
theorem sr_start (s : ByteArray) (r : Bool) (w : World) : Sr s r w.heap.size w ((((w.alloc (.cells #[.nilFunc, .nilFunc, .nilFunc, .nilFunc, .int .i8 0, .map none] 38)).alloc (.cells (cSrc s) 47)).alloc (.cells #[.bool r] 90)).alloc (.cells z7 101)) := by
  have k1 := Blk.new w 38 #[.nilFunc, .nilFunc, .nilFunc, .nilFunc, .int .i8 0, .map none]
  have k2 := Blk.new (w.alloc (.cells #[.nilFunc, .nilFunc, .nilFunc, .nilFunc, .int .i8 0, .map none] 38)) 47 (cSrc s)
  have k3 := Blk.new ((w.alloc (.cells #[.nilFunc, .nilFunc, .nilFunc, .nilFunc, .int .i8 0, .map none] 38)).alloc (.cells (cSrc s) 47)) 90 #[.bool r]
  have k4 := Blk.new (((w.alloc (.cells #[.nilFunc, .nilFunc, .nilFunc, .nilFunc, .int .i8 0, .map none] 38)).alloc (.cells (cSrc s) 47)).alloc (.cells #[.bool r] 90)) 101 z7
  rw [show (((w.alloc (.cells #[.nilFunc, .nilFunc, .nilFunc, .nilFunc, .int .i8 0, .map none] 38)).alloc (.cells (cSrc s) 47)).alloc (.cells #[.bool r] 90)).heap.size = w.heap.size + 1 + 1 + 1 by simp] at k4
  rw [show (w.alloc (.cells #[.nilFunc, .nilFunc, .nilFunc, .nilFunc, .int .i8 0, .map none] 38)).heap.size = w.heap.size + 1 by simp] at k2
  rw [show ((w.alloc (.cells #[.nilFunc, .nilFunc, .nilFunc, .nilFunc, .int .i8 0, .map none] 38)).alloc (.cells (cSrc s) 47)).heap.size = w.heap.size + 1 + 1 by simp] at k3
  exact ⟨((k1.alloc _).alloc _).alloc _, (k2.alloc _).alloc _, k3.alloc _, ((((Below.refl _ _).alloc (Nat.le_refl _) _).alloc (by simp) _).alloc (by simp; try omega) _).alloc (by simp; try omega) _, k4⟩
theorem fresh_first (s : ByteArray) (r : Bool) : (fresh s r).step = (fresh s r).at 0 0 := by
  have hc := cnt_dec s 0 (Nat.zero_le _)
  unfold Lx.step Lx.at fresh
  simp only [hc]
  congr 1
def bomQ (s : ByteArray) : Nat := if bom3 s = true then 3 else 0
/-- the lexer at its first token -/
def At0 (s : ByteArray) (r : Bool) (p B : Nat) (w wc : World) : Prop := Lex wc p (fresh s r) 0 (bomQ s) ∧ Below B w wc ∧ Blk wc (B + 1 + 1 + 1) 101 z7 ∧ B + 1 + 1 + 1 < p
/-- what the loop of Tokenize knows: q' .. behind the token at q -/
def TRel (s : ByteArray) (r : Bool) (p B B2 : Nat) (w : World) (k : Nat) (v : Value) (wr : World) : Prop := ∃ (q q' kd un fl : Nat) (ts : List Tk),
  Lex wr p {fresh s r with st := q, un := un, kd := kd, fl := fl} 0 q' ∧ TokP s q q' kd un ∧ Chain s (bomQ s) ts q ∧ OwnT wr B2 v ts ∧ p < B2 ∧ B2 ≤ wr.heap.size ∧ Below B w wr ∧ Blk wr (B + 1 + 1 + 1) 101 z7 ∧ B + 1 + 1 + 1 < p ∧ q ≤ s.size ∧ s.size - q ≤ k
theorem OwnT.mono {w : World} {B B' : Nat} {v : Value} {ts : List Tk} (h : OwnT w B v ts) (hB : B' ≤ B) : OwnT w B' v ts := by
  obtain ⟨h1, h2⟩ := h
  refine ⟨h1, ?_⟩
  rcases h2 with h | ⟨g, cap, cur, a, b, c⟩
  · exact .inl h
  · exact .inr ⟨g, cap, cur, a, Nat.le_trans hB b, c⟩
theorem info85 : (Tryd.prog.info? 85).map (fun i => (i.zero, i.size, i.bytes)) = some (some (.agg #[.int .i32 0, .int .i32 0, .int .u16 0, .int .u8 0, .int .u8 0]), 5, 12) := by kernel_rfl
theorem tokP_end {s : ByteArray} {q q' un : Nat} (h : TokP s q q' 0 un) : q = s.size ∧ q' = q := by
  rcases h with ⟨_, h1, h2, _⟩ | ⟨_, _, h, _⟩
  · exact ⟨h1, h2⟩
  · exact absurd h (by decide)
theorem tokP_on {s : ByteArray} {q q' kd un : Nat} (h : TokP s q q' kd un) (hk : kd ≠ 0) : q < q' ∧ q' ≤ s.size := by
  rcases h with ⟨h0, _⟩ | ⟨h1, h2, _⟩
  · exact absurd h0 hk
  · exact ⟨h1, h2⟩
def c7 (ao : Option Addr) (n cap : Nat) (m : Int) : Array Value := #[.slice ao n cap, .slice none 0 0, .slice none 0 0, .string ByteArray.empty, .int .i32 0, .int .i32 0, .int .i32 m]
theorem c7_one (ao : Option Addr) (n cap : Nat) (m : Int) : (c7 ao n cap m).all (·.oneCell') = true := by kernel_rfl
theorem c7_info (ao : Option Addr) (n cap : Nat) (m : Int) : (Tryd.prog.info? 101).map (·.size) = some (c7 ao n cap m).size := by kernel_rfl
theorem c7_size (ao : Option Addr) (n cap : Nat) (m : Int) : z7.size = (c7 ao n cap m).size := rfl
def Tkd (s : ByteArray) (w : World) (e : Ending) (w' : World) : Prop := ∃ (ao : Option Addr) (cap : Nat) (ts : List Tk), e = .returned (.agg (c7 ao ts.length cap ((cntNL s s.size : Int) + 1))) ∧ OwnT w' w.heap.size (.slice ao ts.length cap) ts ∧ Chain s (bomQ s) ts s.size ∧ Below w.heap.size w w'
theorem ne_row {v : Value} {r : Option Nat} (h : ∀ g, v.ownBlock = some g → some g ≠ r) : v.ownBlock = none ∨ v.ownBlock ≠ r := by
  rcases hv : v.ownBlock with _ | g
  · exact .inl rfl
  · exact .inr (h g hv)
theorem TRel.next {s : ByteArray} {r : Bool} {p B B2 : Nat} {w wr w4 w5 : World} {q q' kd un fl q2 kd2 un2 fl2 ln : Nat} {ts : List Tk} {v v' : Value} {o : Obj}
    (lx5 : Lex w5 p {fresh s r with st := q', un := un2, kd := kd2, fl := fl2} 0 q2) (hP2 : TokP s q' q2 kd2 un2) (hk0 : kd ≠ 0) (hP : TokP s q q' kd un) (hCh : Chain s (bomQ s) ts q) (hln : q' - q = ln)
    (hO : OwnT wr B2 v ts) (ho4 : OwnT w4 B2 v' (ts ++ [⟨q, ln, un, kd, fl⟩])) (hg4 : (wr.alloc o).grownBy w4 v.ownBlock) (hg5 : w4.grownBy w5 (some p)) (hpB : p < B2) (hB2 : B2 ≤ wr.heap.size) (h3B : B ≤ B2)
    (hbel : Below B w wr) (hB : Blk wr (B + 1 + 1 + 1) 101 z7) (hp : B + 1 + 1 + 1 < p) : TRel s r p B B2 w (s.size - q') v' w5 := by
  obtain ⟨h1, h2⟩ := tokP_on hP hk0
  have e1 : q + ln = q' := by omega
  have hg : wr.grownBy w4 v.ownBlock := gb_trans (World.grownBy_alloc wr o _) hg4
  have hr : ∀ x, some x = v.ownBlock → B2 ≤ x := fun x e => (hO.lt x e.symm).1
  have hz4 := hg.size
  have hz5 := hg5.size
  have hch := hCh.snoc ⟨q, ln, un, kd, fl⟩ rfl ⟨hk0, show TokP s q (q + ln) kd un by rw [e1]; exact hP⟩
  rw [show q + (⟨q, ln, un, kd, fl⟩ : Tk).ln = q' from e1] at hch
  refine ⟨q', q2, kd2, un2, fl2, ts ++ [⟨q, ln, un, kd, fl⟩], lx5, hP2, hch, ho4.gb hg5 (ne_row fun g hg' e => by cases e; have := (ho4.lt p hg').1; omega), hpB, by omega, ?_, (hB.gb hg (fun e => by have := hr _ e; omega)).gb hg5 (by simp; omega), hp, h2, Nat.le_refl _⟩
  exact (hbel.grown hg (by omega) (fun k e => by have := hr k e.symm; omega)).grown hg5 (by omega) (fun k e => by cases e; omega)
set_option maxRecDepth 100000 in
set_option maxHeartbeats 4000000 in
theorem tokenize (s : ByteArray) (r : Bool) (w : World) (hs : Safe s) (hz : s.size ≤ 1048576) (ht : Lib.Utf8Tabs 0 1 w) : Calls Tryd.prog 60 #[.agg #[.nilFunc, .nilFunc, .nilFunc, .nilFunc, .int .i8 0, .map none], .agg (cSrc s), .agg #[.bool r]] w (Tkd s w) := by
  have w0 : 1 < w.heap.size := World.block_lt_of_cell? w ⟨1, 0, none⟩ (ht.2 0 (by decide)).1
  have HT := Lib.hid ht
  have HS := Lib.hid hs
  clear ht hs
  go_enter Tryd.func60, Tryd.ntmps60
  go_upto_region 1 with fail
  go_cut [7] (fun v wc => AtLexer s r w v wc)
  case first => as_aux_lemma =>
    have hS := sr_start s r w
    unfold z7 at hS
    generalize World.alloc (World.alloc _ _) _ = W at hS ⊢
    refine wp_region_held_drew (S := Sr s r w.heap.size w) (by kernel_rfl) hS.drew (fun hH => ?_)
    refine wpAnyH_take (i := 0) rfl (by kernel_rfl) (by kernel_rfl) (by kernel_rfl) (fun _ _ _ h => h) (yieldsIf_load_mid (by rfl) _ _ rfl (w.heap.size + 1 + 1) 0 rfl #[Value.bool r].toList _ (fun w h => h.2.2.1.range) Tryd.underlying90 rfl (by kernel_rfl)) hH ?_
    simp only [Act.put]
    refine wpAnyH_take (i := 1) rfl (by kernel_rfl) (by kernel_rfl) (by kernel_rfl) (fun _ _ _ h => h) (yieldsIf_load_mid (by rfl) _ _ rfl (w.heap.size) 0 rfl #[.nilFunc, .nilFunc, .nilFunc, .nilFunc, .int .i8 0, .map none].toList _ (fun w h => h.1.range) Tryd.underlying38 rfl (by kernel_rfl)) hH ?_
    simp only [Act.put]
    refine wpAnyH_take (i := 2) rfl (by kernel_rfl) (by kernel_rfl) (by kernel_rfl) (fun _ _ _ h => h) (yieldsIf_load_mid (by rfl) _ _ rfl (w.heap.size + 1) 0 rfl (cSrc s).toList _ (fun w h => h.2.1.range) Tryd.underlying47 rfl (by rw [Array.length_toList, cSrc_size]; kernel_rfl)) hH ?_
    simp only [Act.put, Array.toArray_toList]
    refine wpAnyH_ready (rs := [3, 5]) (by kernel_rfl) (by simp) ?_
    refine AllReadyH.cons rfl (fun K hK => ?_) (AllReadyH.cons rfl (fun K hK => ?_) AllReadyH.nil)
    · go_simp
      refine (tracker0 (w.heap.size + 1) s ByteArray.empty ByteArray.empty _ (hH.2.1.cell 3 |>.trans (cSrc3 s)) (hH.2.1.cell 0 |>.trans (cSrc0 s)) (hH.2.1.cell 1 |>.trans (cSrc1 s))).mono ?_
      rintro en w1 ⟨rfl, b1⟩
      have hH1 := hH.kept b1
      clear b1
      go_wp2_with fail
      refine hK.out _ _ hH1 (fun _ => ?_)
      refine wpAnyH_take (i := 4) rfl (by kernel_rfl) (by kernel_rfl) (by kernel_rfl) (fun _ _ _ h => h) (yieldsIf_build (by rfl) 93 _ rfl [(0, .agg #[.bool r]), (1, .agg #[.nilFunc, .nilFunc, .nilFunc, .nilFunc, .int .i8 0, .map none]), (2, .agg (cSrc s)), (6, .agg #[.string s, .string ByteArray.empty, .string ByteArray.empty, .int .i32 0, .int .i32 0, .int .i32 0, .int .i32 0, .bool true, .bool false, .bool true])] rfl (cTk s r) (cBuildTk s r)) hH1 ?_
      refine wpAnyH_ready (rs := [5]) (by kernel_rfl) (by simp) ?_
      refine AllReadyH.cons rfl (fun K hK => ?_) AllReadyH.nil
      refine step_alloc_zero (by rfl) 93 rfl zc93 alloc93 ?_
      have hH2 := hH1.kept ((Below.refl _ _).alloc (Nat.le_refl _) (.cells zc93 93))
      have hb := Blk.new w1 93 zc93
      have hp := hH1.2.2.2.2.lt
      generalize hp93 : w1.heap.size = p at hb hp ⊢
      generalize w1.alloc (.cells zc93 93) = w2 at hb hH2 ⊢
      refine hK.out _ _ hH2 (fun _ => ?_)
      refine wpAnyH_ready (rs := [6]) (by kernel_rfl) (by simp) ?_
      refine AllReadyH.cons rfl (fun K hK => ?_) AllReadyH.nil
      refine step_store_blk (by rfl) 93 _ _ rfl p zc93 (cTk s r) hb rfl rfl (tk_size s r) (tk_info s r) (tk_one s r) ?_
      intro w3 hb3 hg3
      have hH3 := hH2.gb hg3 hp
      refine hK.out _ _ hH3 (fun _ => ?_)
      refine wpAnyH_done (by kernel_rfl) ?_ _
      go_simp
      go_wp2_with fail
      go_meet
      exact ⟨p, rfl, css_of_tk s r hb3, hp, hH3.2.2.2.1, hH3.2.2.2.2⟩
    · refine step_alloc_zero (by rfl) 93 rfl zc93 alloc93 ?_
      have hH1 := hH.kept ((Below.refl _ _).alloc (Nat.le_refl _) (.cells zc93 93))
      have hb := Blk.new W.drew 93 zc93
      have hp : w.heap.size + 1 + 1 + 1 < W.drew.heap.size := hH.2.2.2.2.lt
      generalize W.drew.heap.size = p at hb hp ⊢
      generalize W.drew.alloc (.cells zc93 93) = w1 at hb hH1 ⊢
      refine hK.out _ _ hH1 (fun _ => ?_)
      refine wpAnyH_ready (rs := [3]) (by kernel_rfl) (by simp) ?_
      refine AllReadyH.cons rfl (fun K hK => ?_) AllReadyH.nil
      go_simp
      refine (tracker0 (w.heap.size + 1) s ByteArray.empty ByteArray.empty _ (hH1.2.1.cell 3 |>.trans (cSrc3 s)) (hH1.2.1.cell 0 |>.trans (cSrc0 s)) (hH1.2.1.cell 1 |>.trans (cSrc1 s))).mono ?_
      rintro en w2 ⟨rfl, b1⟩
      have hH2 := hH1.kept b1
      have hb2 := hb.kept b1
      clear b1
      go_wp2_with fail
      refine hK.out _ _ hH2 (fun _ => ?_)
      refine wpAnyH_take (i := 4) rfl (by kernel_rfl) (by kernel_rfl) (by kernel_rfl) (fun _ _ _ h => h) (yieldsIf_build (by rfl) 93 _ rfl [(0, .agg #[.bool r]), (1, .agg #[.nilFunc, .nilFunc, .nilFunc, .nilFunc, .int .i8 0, .map none]), (2, .agg (cSrc s)), (6, .agg #[.string s, .string ByteArray.empty, .string ByteArray.empty, .int .i32 0, .int .i32 0, .int .i32 0, .int .i32 0, .bool true, .bool false, .bool true])] rfl (cTk s r) (cBuildTk s r)) hH2 ?_
      refine wpAnyH_ready (rs := [6]) (by kernel_rfl) (by simp) ?_
      refine AllReadyH.cons rfl (fun K hK => ?_) AllReadyH.nil
      refine step_store_blk (by rfl) 93 _ _ rfl p zc93 (cTk s r) hb2 rfl rfl (tk_size s r) (tk_info s r) (tk_one s r) ?_
      intro w3 hb3 hg3
      have hH3 := hH2.gb hg3 hp
      refine hK.out _ _ hH3 (fun _ => ?_)
      refine wpAnyH_done (by kernel_rfl) ?_ _
      go_simp
      go_wp2_with fail
      go_meet
      exact ⟨p, rfl, css_of_tk s r hb3, hp, hH3.2.2.2.1, hH3.2.2.2.2⟩
  case rest =>
    obtain ⟨p, rfl, hc, hp, hb, hB⟩ := hcut
    have tabs := tabs_below HT.out hb (by omega) (by omega)
    have hst := css_step p (fresh s r) wc hc (Nat.zero_le _) (show s.size ≤ 2097152 by omega) (Nat.le_refl 0) (Nat.zero_le _) tabs
    rw [fresh_first] at hst
    have HST := Lib.hid hst
    have H0 := Lib.hid (And.intro hb (And.intro hB tabs))
    clear hst hb hB hc tabs
    go_wp2_with fail
    refine HST.out.mono ?_
    rintro e w1 ⟨rfl, c1, g1⟩
    have l1 : Lex w1 p (fresh s r) 0 0 := ⟨c1, Nat.zero_le _, Nat.le_refl _, show s.size ≤ 2097152 by omega, Nat.zero_le _, tabs_gbn H0.out.2.2 g1 (by simp; omega) (by simp; omega), by omega⟩
    obtain ⟨z10, z33, z35, z36, z37⟩ := l1.cells
    obtain ⟨c, hcc⟩ : ∃ c, (decAt s 0).1 = c := ⟨_, rfl⟩
    rw [show (decAt (fresh s r).s 0).1 = c from hcc] at z35
    have hlt := l1.lt
    have H1 := Lib.hid (And.intro l1 (And.intro (below_gb H0.out.1 g1 (by have := H0.out.2.1.lt; omega) (by omega)) (And.intro (H0.out.2.1.gb g1 (by simp; omega)) hcc)))
    clear l1 c1 g1 hcc z10 z33 z36 z37
    go_upto_if 22 with fail
    go_cut [] (fun wc => At0 s r p w.heap.size w wc)
    case first => as_aux_lemma =>
      by_cases hbom : c = 65279
      · subst hbom
        have hst := lex_step p (fresh s r) 0 0 w1 H1.out.1
        have hw : (decAt (fresh s r).s 0).2 = 3 := (bom_dec s).2 H1.out.2.2.2
        have hq : bomQ s = 3 := by unfold bomQ; rw [if_pos ((bom_dec s).1.1 H1.out.2.2.2)]
        rw [hw, Nat.zero_add, ← hq] at hst
        have HST2 := Lib.hid hst
        clear hst hw hq
        go_wp2_with fail
        refine HST2.out.mono ?_
        rintro e w2 ⟨rfl, l2, g2⟩
        have H2 := Lib.hid (And.intro l2 g2)
        clear l2 g2
        go_wp2_with fail
        go_meet
        exact ⟨H2.out.1, below_gb H1.out.2.1 H2.out.2 (by omega) (by omega), H1.out.2.2.1.gb H2.out.2 (by simp; omega), hp⟩
      · have t1 : (c == 65279) = false := beq_eq_false_iff_ne.2 hbom
        have hq : bomQ s = 0 := by unfold bomQ; rw [if_neg (fun k => hbom (H1.out.2.2.2.symm.trans ((bom_dec s).1.2 k)))]
        have HQ := Lib.hid hq
        clear hq
        go_wp2_with fail
        go_meet
        exact ⟨by rw [HQ.out]; exact H1.out.1, H1.out.2.1, H1.out.2.2.1, hp⟩
    case rest =>
      obtain ⟨l2, b2, k2, _⟩ := hcut
      have H2 := Lib.hid (And.intro l2 (And.intro b2 k2))
      have hlt2 := l2.lt
      clear l2 b2 k2 z35
      go_wp2_with fail
      refine (next_any p (fresh s r) 0 (bomQ s) wc H2.out.1 HS.out).mono ?_
      rintro e w3 ⟨q', kd, un, fl, rfl, hP, l3, g3⟩
      have H3 := Lib.hid (show TRel s r p w.heap.size w3.heap.size w (s.size - bomQ s) (.slice none 0 0) w3 from ⟨bomQ s, q', kd, un, fl, [], l3, hP, Chain.nil _ _, OwnT.nil _ _, l3.lt, Nat.le_refl _, below_gb H2.out.2.1 g3 (by omega) (by omega), H2.out.2.2.gb g3 (by simp; omega), hp, H2.out.1.hq, Nat.le_refl _⟩)
      obtain ⟨B2, hB2⟩ : ∃ B2, w3.heap.size = B2 := ⟨_, rfl⟩
      rw [hB2] at H3
      have h3B : w.heap.size ≤ B2 := by have := l3.lt; omega
      clear l3 g3 hP hB2
      go_wp2_with fail
      go_loopg [8, 9] (s.size - bomQ s) (fun k v l wr => l = .slice none 0 0 ∧ TRel s r p w.heap.size B2 w k v wr)
      case atStart => exact ⟨rfl, H3.out⟩
      case round =>
        obtain ⟨rfl, q, q', kd, un, fl, ts, lx, hP, hCh, hO, hpB, hB2, hbel, hB, _, hq, hk⟩ := hrel
        obtain ⟨c0, c10, c17, c18, c19, c20, c21, c32, c33, c35, c36, c37, c38, c39, c40⟩ := lx.css.cells
        have k18 : wr.cell? ⟨p, 18, none⟩ = some (.slice none 0 0) := c18
        have k39 : wr.cell? ⟨p, 39, none⟩ = some (.int .u8 kd) := c39
        have hlr := lx.lt
        obtain ⟨ao, cap, rfl, _, _, _⟩ := hO.at
        by_cases hkd : kd = 0
        · subst hkd
          obtain ⟨e1, e2⟩ := tokP_end hP
          have k17 : wr.cell? ⟨p, 17, none⟩ = some (.slice none 0 0) := c17
          have k19 : wr.cell? ⟨p, 19, none⟩ = some (.string ByteArray.empty) := c19
          have k20 : wr.cell? ⟨p, 20, none⟩ = some (.int .i32 0) := c20
          have k21 : wr.cell? ⟨p, 21, none⟩ = some (.int .i32 0) := c21
          have k32 : wr.cell? ⟨p, 32, none⟩ = some (.int .i64 (cntNL s (q' + (decAt s q').2) - 0 : Nat)) := c32
          rw [decAt_end s q' (by omega), Nat.add_zero, Nat.sub_zero, e2, e1] at k32
          have hn := cntNL_le s s.size
          obtain ⟨n, hnn⟩ : ∃ n, cntNL s s.size = n := ⟨_, rfl⟩
          rw [hnn] at k32 hn
          rw [e1] at hCh
          have HF := Lib.hid (And.intro hnn (And.intro hCh (And.intro hO (And.intro hbel hB))))
          clear c0 c10 c17 c18 c19 c20 c21 c32 c33 c35 c36 c37 c38 c39 c40 lx hP hCh hO hbel hB hnn e1 e2
          have hn' : n + 1 < 2147483648 := by omega
          go_wp2_with (refine wpList_store_blk rfl 101 _ _ rfl (w.heap.size + 1 + 1 + 1) z7 (c7 ao ts.length cap ((n : Int) + 1)) HF.out.2.2.2.2 rfl ?_ (c7_size _ _ _ _) (c7_info _ _ _ _) (c7_one _ _ _ _) ?_; rotate_left; intro w5 hb5 hg5)
          case refine_1 => unfold c7; go_simp
          refine bodyPost_ret (v := .agg (c7 ao ts.length cap ((n : Int) + 1))) (results_cell_row (d := _) Tryd.results60 _ _ (w.heap.size + 1 + 1 + 1) 101 _ (0, 0) (by rfl) hb5 Tryd.underlying101 rfl (c7_info _ _ _ _)) rfl ?_
          exact ⟨ao, cap, ts, by rw [HF.out.1], (HF.out.2.2.1.gb hg5 (ne_row fun g hg' e => by cases e; have := (HF.out.2.2.1.lt _ hg').1; omega)).mono h3B, HF.out.2.1, HF.out.2.2.2.1.grown hg5 (by omega) (fun k e => by cases e; omega)⟩
        · obtain ⟨h1, h2⟩ := tokP_on hP hkd
          have k36 : wr.cell? ⟨p, 36, none⟩ = some (.int .i32 q) := c36
          have k37 : wr.cell? ⟨p, 37, none⟩ = some (.int .i32 (q' - q : Nat)) := c37
          have k38 : wr.cell? ⟨p, 38, none⟩ = some (.int .u16 un) := c38
          have k40 : wr.cell? ⟨p, 40, none⟩ = some (.int .u8 fl) := c40
          obtain ⟨ln, hln⟩ : ∃ ln, q' - q = ln := ⟨_, rfl⟩
          rw [hln] at k37
          have hlen := hCh.len hq
          have HF := Lib.hid (And.intro lx (And.intro hP (And.intro hCh (And.intro hO (And.intro hbel (And.intro hB hln))))))
          clear c0 c10 c17 c18 c19 c20 c21 c32 c33 c35 c36 c37 c38 c39 c40 lx hP hCh hO hbel hB
          have t0 : ((kd : Int) == 0) = false := beq_eq_false_iff_ne.2 (by omega)
          have hO2 := HF.out.2.2.2.1
          have hrow : ∀ g, (Value.slice ao ts.length cap).ownBlock = some g → B2 ≤ g ∧ g < wr.heap.size := hO2.lt
          have HB : Hid (∀ x, some x = (Value.slice ao ts.length cap).ownBlock → B2 ≤ x) := Lib.hid (fun x e => (hrow x e.symm).1)
          clear hrow hO2
          go_wp2_with (at_builtin; refine wpList_pushT _ rfl _ _ 99 rfl B2 Tryd.underlying99 12 _ rfl info85 _ ts ⟨q, ln, un, kd, fl⟩ rfl (World.ownsRow.alloc HF.out.2.2.2.1 _) wr.heap.size rfl (Blk.new wr 85 _) (by unfold maxLen; omega) (by omega) (by simp; omega) ?_; intro v' w4 ho4 hg4 hn4)
          have lx4 := HF.out.1.gb (gb_trans (World.grownBy_alloc wr _ _) hg4) (fun e => by have := HB.out _ e; omega) (fun e => by have := HB.out _ e; omega) (fun e => by have := HB.out _ e; omega)
          refine (next_any p _ 0 q' w4 lx4 HS.out).mono ?_
          rintro e w5 ⟨q2, kd2, un2, fl2, rfl, hP2, lx5, hg5⟩
          have HN := Lib.hid (show TRel s r p w.heap.size B2 w (s.size - q') v' w5 from TRel.next lx5 hP2 hkd HF.out.2.1 HF.out.2.2.1 HF.out.2.2.2.2.2.2 HF.out.2.2.2.1 ho4 hg4 hg5 hpB hB2 h3B HF.out.2.2.2.2.1 HF.out.2.2.2.2.2.1 hp)
          clear lx4 lx5 hP2 hg5 ho4 hg4 hn4
          go_wp2_with fail
          go_roundg (s.size - q')
          case measure => omega
          case rel => exact ⟨rfl, HN.out⟩
noncomputable def zc47 : Array Value := cellsOf ((zeroValue 47).run Tryd.prog default)
theorem alloc47 (w : World) : (Instr.alloc 47 true (.tuple #[])).run Tryd.prog w = .ok (.pointer (some ⟨w.heap.size, 0, none⟩)) (w.alloc (.cells zc47 47)) := by kernel_rfl
theorem src_size (s : ByteArray) : zc47.size = (cSrc s).size := by kernel_rfl
theorem src_info (s : ByteArray) : (Tryd.prog.info? 47).map (·.size) = some (cSrc s).size := by kernel_rfl
theorem src_one (s : ByteArray) : (cSrc s).all (·.oneCell') = true := by kernel_rfl
theorem src_info' (s : ByteArray) : (Tryd.prog.info? 47).map (·.size) = some (cSrc s).toList.length := by rw [Array.length_toList]; exact src_info s
set_option maxRecDepth 100000 in
set_option maxHeartbeats 4000000 in
theorem tkz_any (s : ByteArray) (r : Bool) (w : World) (hs : Safe s) (hz : s.size ≤ 1048576) (ht : Lib.Utf8Tabs 0 1 w) : Calls Tryd.prog 37 #[.string s, .bool r] w (Tkd s w) := by
  have w0 : 1 < w.heap.size := World.block_lt_of_cell? w ⟨1, 0, none⟩ (ht.2 0 (by decide)).1
  have HT := Lib.hid ht
  have HS := Lib.hid hs
  clear ht hs
  go_enter Tryd.func37, Tryd.ntmps37
  go_wp2_with (first
    | (refine wpList_build rfl 47 _ rfl [(2, .string s)] rfl (cSrc s) (cBuild47 s) ?_)
    | (refine wpList_alloc_zero rfl 47 rfl zc47 alloc47 ?_; refine wpList_store_new (w0 := (w.alloc (.cells z7 101)).alloc (.cells #[.nilFunc, .nilFunc, .nilFunc, .nilFunc, .int .i8 0, .map none] 38)) rfl 47 _ _ rfl zc47 (cSrc s) rfl rfl (src_info s) (src_size s) (src_one s) ?_)
    | (refine wpList_load_mid rfl 47 _ rfl (w.heap.size + 1 + 1) 0 rfl (cSrc s).toList _ (Blk.range (by simpa using Blk.new ((w.alloc (.cells z7 101)).alloc (.cells #[.nilFunc, .nilFunc, .nilFunc, .nilFunc, .int .i8 0, .map none] 38)) 47 (cSrc s))) Tryd.underlying47 rfl (src_info' s) ?_; simp only [Array.toArray_toList]))
  have hbl : Below w.heap.size w (((w.alloc (.cells z7 101)).alloc (.cells #[.nilFunc, .nilFunc, .nilFunc, .nilFunc, .int .i8 0, .map none] 38)).alloc (.cells (cSrc s) 47)) := (((Below.refl _ _).alloc (Nat.le_refl _) _).alloc (by simp) _).alloc (by simp; try omega) _
  have hB := ((Blk.new w 101 z7).alloc (.cells #[.nilFunc, .nilFunc, .nilFunc, .nilFunc, .int .i8 0, .map none] 38)).alloc (.cells (cSrc s) 47)
  have hzz : w.heap.size ≤ (((w.alloc (.cells z7 101)).alloc (.cells #[.nilFunc, .nilFunc, .nilFunc, .nilFunc, .int .i8 0, .map none] 38)).alloc (.cells (cSrc s) 47)).heap.size := hbl.size
  refine (tokenize s r _ HS.out hz (tabs_below HT.out hbl (by omega) (by omega))).mono ?_
  rintro e w5 ⟨ao, cap, ts, rfl, hO, hC, hb5⟩
  have HF := Lib.hid (And.intro (hO.mono (B' := w.heap.size + 1) (by simp; try omega)) (And.intro hC (And.intro (hbl.trans (hb5.mono hzz)) (hB.kept hb5))))
  clear hO hC hb5 hbl hB hzz
  go_wp2_with (refine wpList_store_blk rfl 101 _ _ rfl w.heap.size z7 (c7 ao ts.length cap ((cntNL s s.size : Int) + 1)) HF.out.2.2.2 rfl rfl (c7_size _ _ _ _) (c7_info _ _ _ _) (c7_one _ _ _ _) ?_; intro w6 hb6 hg6)
  refine bodyPost_ret (v := .agg (c7 ao ts.length cap ((cntNL s s.size : Int) + 1))) (results_cell_row (d := _) Tryd.results37 _ _ w.heap.size 101 _ (0, 0) (by rfl) hb6 Tryd.underlying101 rfl (c7_info _ _ _ _)) rfl ?_
  exact ⟨ao, cap, ts, rfl, (HF.out.1.gb hg6 (ne_row fun g hg' e => by cases e; have := (HF.out.1.lt _ hg').1; omega)).mono (by omega), HF.out.2.1, HF.out.2.2.1.grown hg6 (by have := HF.out.2.2.2.lt; omega) (fun k e => by cases e; omega)⟩
end Go.Proofs.YtlbpplkanogkgaaDoor
