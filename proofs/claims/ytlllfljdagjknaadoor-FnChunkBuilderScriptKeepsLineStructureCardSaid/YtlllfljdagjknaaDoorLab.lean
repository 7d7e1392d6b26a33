/-
  The law of the chunk builder's script, its memory: the builder, the output, what each step keeps. No statement of the seat is proved here.
-/
import Derived.Test.YtlllfljdagjknaaDoorZw
import Derived.Test.YtlllfljdagjknaaDoorCp
namespace Go.Proofs.YtlllfljdagjknaaDoor
open Go.RowKit
set_option linter.unusedVariables false
def cbl (r : Option Nat) (sm : Value) (q : Pq) (l : Nat) : Cb := { up (c0 (.map r)) sm q with lu := (l : Nat) }
structure Lw (r : Option Nat) (wA : World) (g : Nat) (q : Pq) (l : Nat) (ob : List Int) (v4 sm : Value) (wr : World) : Prop where
  cb : Cbd wr g (cbl r sm q l) (txt false q.toks)
  out : Own .u8 5 wr (g + 1) v4 ob
  ne : ∀ x, v4.ownBlock = some x → sm.ownBlock ≠ some x
  bel : Below g wA wr
theorem Lw.lt {r : Option Nat} {wA : World} {g : Nat} {q : Pq} {l : Nat} {ob : List Int} {v4 sm : Value} {wr : World} (h : Lw r wA g q l ob v4 sm wr) : g + 1 ≤ wr.heap.size := h.cb.blk.lt
theorem Lw.push {r : Option Nat} {wA : World} {g : Nat} {q : Pq} {l : Nat} {ob ob' : List Int} {v4 v4' sm : Value} {wr w' : World} (h : Lw r wA g q l ob v4 sm wr) (ho : Own .u8 5 w' (g + 1) v4' ob') (hg : Gr wr v4 w' v4') : Lw r wA g q l ob' v4' sm w' := by
  have hl := h.lt
  refine ⟨⟨h.cb.blk.gb hg.1 (fun e => by have := (h.out.lt g e.symm).1; omega), h.cb.own.gb hg.1 ?_, h.cb.tab.below ((Below.refl _ _).grown hg.1 (by omega) (fun x hx => by have := (h.out.lt x hx).1; omega))⟩, ho, fun x hx => ?_, h.bel.grown hg.1 (by omega) (fun x hx => by have := (h.out.lt x hx).1; omega)⟩
  · rcases hx : sm.ownBlock with _ | x
    · exact .inl hx
    · refine .inr (fun e => ?_)
      have e' : sm.ownBlock = v4.ownBlock := e
      exact h.ne x (e'.symm.trans hx) hx
  · rcases hg.2 with e | ⟨y, e, hy⟩
    · exact h.ne x (e.symm.trans hx)
    · rw [e] at hx; cases hx
      intro c; have := (h.cb.own.lt _ c).2; omega
theorem Lw.fr {r : Option Nat} {wA : World} {g : Nat} {q q' : Pq} {l l' : Nat} {ob : List Int} {v4 sm sm' : Value} {wr w' : World} (h : Lw r wA g q l ob v4 sm wr) (hc : Cbd w' g (cbl r sm' q' l') (txt false q'.toks)) (hf : Fr wr g sm w' sm') : Lw r wA g q' l' ob v4 sm' w' := by
  have hl := h.lt
  refine ⟨hc, hf.own h.out (fun x hx => ⟨by have := (h.out.lt x hx).1; omega, h.ne x hx⟩), fun x hx => ?_, ⟨hf.os.trans h.bel.os, hf.tape.trans h.bel.tape, hf.output.trans h.bel.output, Nat.le_trans h.bel.size hf.size, fun i hi => (hf.block i (by omega) (by omega) (fun e => by have := (h.cb.own.lt i e).1; omega)).trans (h.bel.block i hi)⟩⟩
  rcases hf.nw with e | ⟨y, e, hy⟩
  · rw [e]; exact h.ne x hx
  · rw [e]; intro c; cases c; have := (h.out.lt _ hx).2; omega
theorem Lw.kept {r : Option Nat} {wA : World} {g : Nat} {q : Pq} {l : Nat} {ob : List Int} {v4 sm : Value} {wr w' : World} (h : Lw r wA g q l ob v4 sm wr) (hb : Below wr.heap.size wr w') : Lw r wA g q l ob v4 sm w' :=
  ⟨⟨h.cb.blk.kept hb, h.cb.own.kept hb, h.cb.tab.below (hb.mono (by have := h.lt; omega))⟩, h.out.kept hb, h.ne, h.bel.trans (hb.mono (by have := h.lt; omega))⟩
theorem Lw.upd {r : Option Nat} {wA : World} {g : Nat} {q q' : Pq} {l : Nat} {m : Nat} {ob : List Int} {v4 sm : Value} {wr w' : World} {e : Ending} (h : Lw r wA g q l ob v4 sm wr) (hu : IsUpd { c0 (.map r) with lu := (l : Nat) } g q' (m : Nat) wr sm e w') : e = .returned (.tuple #[]) ∧ ∃ sm', Lw r wA g q' m ob v4 sm' w' := by
  obtain ⟨sm', he, hr⟩ := hu
  exact ⟨he, sm', h.fr (q' := q') (l' := m) ⟨hr.blk, hr.own, hr.tab⟩ hr.fr⟩
theorem Lw.app {r : Option Nat} {wA : World} {g : Nat} {q : Pq} {l : Nat} {ob : List Int} {v4 sm : Value} {wr w' : World} {e : Ending} {gc si ol oc : Int} (h : Lw r wA g q l ob v4 sm wr) (hu : IsApp g (cbl r sm q l) (txt false q.toks) ⟨q.gl, gc, si, ol, oc, 0⟩ wr e w') : e = .returned (.tuple #[]) ∧ ∃ sm', Lw r wA g (q.app gc si ol oc) l ob v4 sm' w' := by
  obtain ⟨sm', he, hc, hf⟩ := hu
  refine ⟨he, sm', h.fr (q' := q.app gc si ol oc) (l' := l) ⟨hc.blk, ?_, hc.tab⟩ hf⟩
  have := hc.own
  show Own .u8 5 w' (g + 1) sm' (txt false (q.toks ++ _))
  rw [txt_seg]; exact this
/-- the output behind a push: its block, its cells -/
theorem out_form {w : World} {g : Nat} {v4 : Value} {ob : List Int} {T : ByteArray} (ho : Own .u8 5 w (g + 1) v4 (ob ++ (T.data.toList.map fun x => (x.toNat : Int)))) (hT : 0 < T.size) : ∃ o cap, v4 = .slice (some ⟨o, 0, none⟩) (ob.length + T.size) cap ∧ ob.length + T.size ≤ cap ∧ g < o ∧ o < w.heap.size ∧ Lib.Bytes w o ob.length T := by
  have hl : (ob ++ (T.data.toList.map fun x => (x.toNat : Int))).length = ob.length + T.size := by simp
  obtain ⟨ao, cap, rfl, hin, hc, h | ⟨o, rfl, h1, h2⟩⟩ := ho.form
  · have := h.2.1; rw [this] at hl; simp at hl; omega
  · rw [hl] at hc ⊢
    refine ⟨o, cap, rfl, hc, by omega, h2, fun i hi => ?_⟩
    obtain ⟨b, off, e, _, hcc⟩ := hin.at (i := ob.length + i) (by rw [hl]; omega)
    cases e
    rw [Nat.zero_add, nth_app_right] at hcc
    rw [hcc]
    congr 2
    have hi' : i < T.data.toList.length := by simpa using hi
    simp [nth, hi]
    rfl
theorem Own.cell {k : IntKind} {e : TypeId} {w : World} {B n cap : Nat} {ao : Option Addr} {zs : List Int} (h : Own k e w B (.slice ao n cap) zs) (i : Nat) (hi : i < zs.length) : ∃ b off, ao = some ⟨b, off, none⟩ ∧ b < w.heap.size ∧ w.cell? ⟨b, off + i, none⟩ = some (.int k (nth zs i)) := by
  obtain ⟨ao', cap', he, hin, _⟩ := h.form
  cases he
  exact hin.at hi
def UpdP (r : Option Nat) (wA : World) (g : Nat) (q' : Pq) (ob' : List Int) (v5 : Value) (e : Ending) (w' : World) : Prop := e = .returned (.tuple #[]) ∧ ∃ sm', Lw r wA g q' ob'.length ob' v5 sm' w'
theorem step_upd {r : Option Nat} {wA : World} {g : Nat} {q : Pq} {nl mp t : Nat} {ob : List Int} {v4 v5 sm : Value} {wr w5 : World} (T : ByteArray) (hT : 0 < T.size) (hT2 : T.size ≤ 2) (h : Lw r wA g q ob.length ob v4 sm wr) (hinv : Inv q nl mp t) (ht : t ≤ 65536) (hob : ob.length ≤ 2 * t)
    (ho : Own .u8 5 w5 (g + 1) v5 (ob ++ (T.data.toList.map fun x => (x.toNat : Int)))) (hg : Gr wr v4 w5 v5) :
    ∃ o cap5, v5 = .slice (some ⟨o, 0, none⟩) (ob.length + T.size) cap5 ∧ Calls Tryd.prog 7 #[.pointer (some ⟨g, 0, none⟩), .slice (some ⟨o, 0, none⟩) (ob.length + T.size) cap5] w5 (UpdP r wA g (runQ T q T.size) (ob ++ (T.data.toList.map fun x => (x.toNat : Int))) v5) := by
  have hl := h.push ho hg
  obtain ⟨o, cap5, rfl, hcap, hgo, how, hby⟩ := out_form ho hT
  have h1 := hinv.gc0
  have h2 := hinv.gc1
  have h3 := hinv.gcol0
  have h4 := hinv.gcol1
  have h5 := hinv.gl
  have h6 := hinv.nt
  have h7 := hinv.len
  refine ⟨o, cap5, rfl, (zzupd_any { c0 (.map r) with lu := (ob.length : Nat) } g q sm o ob.length cap5 T w5 rfl rfl hl.cb hby how (by omega) (hl.ne o rfl) hT hcap (by omega) h1 (by omega) h3 (by omega) (by omega) (by omega) (by omega)).mono ?_⟩
  intro e w' hu
  obtain ⟨h1, sm', h2⟩ := hl.upd hu
  exact ⟨h1, sm', by rw [show (ob ++ (T.data.toList.map fun x => (x.toNat : Int))).length = ob.length + T.size by simp]; exact h2⟩
theorem step_app {r : Option Nat} {wA : World} {g : Nat} {q : Pq} {nl mp t : Nat} {ob : List Int} {v4 sm : Value} {wr : World} (p : Int) (h : Lw r wA g q ob.length ob v4 sm wr) (hinv : Inv q nl mp t) (ht : t ≤ 65536) (hp0 : -536870912 ≤ p) (hp1 : p ≤ 536870911) :
    Calls Tryd.prog 9 #[.pointer (some ⟨g, 0, none⟩), .agg #[.int .i64 q.gl, .int .i64 q.gcol, .int .i64 p, .int .i64 p, .int .i64 (-p), .int .i64 0, .bool false]] wr (UpdP r wA g (q.app q.gcol p p (-p)) ob v4) := by
  have h1 := hinv.gc0
  have h2 := hinv.gc1
  have h3 := hinv.gcol0
  have h4 := hinv.gcol1
  have h5 := hinv.si0
  have h6 := hinv.si1
  have h7 := txt_len q.toks false
  have h8 := hinv.len
  have h9 := hinv.ol
  have h10 := hinv.oc
  refine (zzamw_any g (cbl r sm q ob.length) (txt false q.toks) ⟨q.gl, q.gcol, p, p, -p, 0⟩ wr h.cb (last_ok _) ?_ ?_ ?_ ?_ (by omega)).mono ?_
  · show Bnd (q.gcol - q.gc); unfold Bnd; omega
  · show Bnd (p - q.si); unfold Bnd; omega
  · show Bnd (p - q.ol); unfold Bnd; omega
  · show Bnd (-p - q.oc); unfold Bnd; omega
  · intro e w' hu
    exact h.app hu
theorem step_gcol {r : Option Nat} {wA : World} {g : Nat} {q : Pq} {l : Nat} {ob : List Int} {v4 sm : Value} {wr : World} (h : Lw r wA g q l ob v4 sm wr) : Calls Tryd.prog 10 #[.pointer (some ⟨g, 0, none⟩)] wr (fun e w' => e = .returned (.int .i64 q.gcol) ∧ wr = w') := gcol_any g _ wr h.cb.blk
theorem step_lu {r : Option Nat} {wA : World} {g : Nat} {q : Pq} {l : Nat} {ob : List Int} {v4 sm : Value} {wr : World} (h : Lw r wA g q l ob v4 sm wr) : Calls Tryd.prog 11 #[.pointer (some ⟨g, 0, none⟩)] wr (fun e w' => e = .returned (.int .i64 (l : Nat)) ∧ wr = w') := lu_any g _ wr h.cb.blk
theorem Lw.drewN {r : Option Nat} {wA : World} {g : Nat} {q : Pq} {l : Nat} {ob : List Int} {v4 sm : Value} {wr : World} (h : Lw r wA g q l ob v4 sm wr) (m : Nat) : Lw r wA g q l ob v4 sm (wr.drewN m) := h.kept ⟨rfl, rfl, rfl, Nat.le_refl _, fun _ _ => rfl⟩
theorem field31 (a b c d e f : Int) (w : World) : (Instr.field 31 (.agg #[.int .i64 a, .int .i64 b, .int .i64 c, .int .i64 d, .int .i64 e, .int .i64 f, .bool false]) 0).run Tryd.prog w = .ok (.int .i64 a) w := by kernel_rfl
theorem step_prev {r : Option Nat} {wA : World} {g : Nat} {q : Pq} {l : Nat} {ob : List Int} {v4 sm : Value} {wr : World} (h : Lw r wA g q l ob v4 sm wr) (n : Nat) (hn : q.gl = n) : Calls Tryd.prog 8 #[.pointer (some ⟨g, 0, none⟩)] wr (fun e w' => e = .returned (.agg #[.int .i64 n, .int .i64 q.gc, .int .i64 q.si, .int .i64 q.ol, .int .i64 q.oc, .int .i64 0, .bool false]) ∧ Below wr.heap.size wr w') := by
  rw [← hn]; exact prev_any g _ wr h.cb.blk
/-- the law's loop over the script -/
def GT (r : Option Nat) (wA : World) (g t : Nat) (v4 v5 v6 : Value) (wr : World) : Prop := ∃ (q : Pq) (nl mp : Nat) (sm : Value) (ob : List Int), v5 = .int .i64 nl ∧ v6 = .int .i64 mp ∧ Inv q nl mp t ∧ ob.length ≤ 2 * t ∧ Lw r wA g q ob.length ob v4 sm wr
def SmE (r : Option Nat) (wA : World) (g : Nat) (q' : Pq) (ob : List Int) (v4 : Value) (wx : World) : Prop := ∃ sm', Lw r wA g q' ob.length ob v4 sm' wx
/-- the law's loop over the text: l1 read, l2 to come -/
def G2 (L : List Tk) (wr : World) (k : Nat) (v13 v14 v15 v16 v17 v18 v19 : Value) (wx : World) : Prop := ∃ l1 l2 : List Tk, L = l1 ++ l2 ∧ v13 = .int .i64 ((txt false l1).length + startOf (lst false l1) l2 : Nat) ∧ v14 = .int .i64 (nls l1 : Nat) ∧ v15 = .int .i64 (sgs l1 : Nat) ∧ v16 = .int .i64 (colOf 0 l1) ∧ v17 = .int .i64 (srcOf l1) ∧ v18 = .int .i64 (srcOf l1) ∧ v19 = .int .i64 (-(srcOf l1)) ∧ l2.length ≤ k ∧ Below wr.heap.size wr wx
def Dsg4 (a b c d : Int) (w : World) (e : Ending) (w' : World) : Prop := ∃ s0 s1 s2 s3 s4 s5 : Int, e = .returned (.tuple #[.agg #[.int .i64 a, .int .i64 b, .int .i64 c, .int .i64 d, .int .i64 0, .int .i64 0], .agg #[.int .i64 s0, .int .i64 s1, .int .i64 s2, .int .i64 s3, .int .i64 s4, .int .i64 s5], .int .i64 4, .bool true]) ∧ Below w.heap.size w w'
theorem step_seg (ao : Option Addr) (cap n P : Nat) (X : List Int) (a b c d : Int) (w : World) (hn : X.length = n) (hin : In .u8 w ao X) (hl : n ≤ 1073741824) (hb : Bnd a ∧ Bnd b ∧ Bnd c ∧ Bnd d) (hP : P + (encs a b c d).length ≤ n)
    (hs : ∀ j, j < (encs a b c d).length → nth X (P + j) = nth (encs a b c d) j) : Calls Tryd.prog 14 #[.slice ao n cap, .int .i64 P, .int .i64 (P + (encs a b c d).length : Nat)] w (Dsg4 a b c d w) := by
  have hE := encs_flat a b c d
  rw [hE] at hs hP ⊢
  have hnum : ∀ (F R : List Int) (z : Int), [a, b, c, d].flatMap enc = F ++ (enc z ++ R) → NumAt X (P + F.length) z := by
    intro F R z he j hj
    have hlen : F.length + j < ([a, b, c, d].flatMap enc).length := by rw [he]; simp; omega
    refine ⟨by omega, ?_⟩
    rw [Nat.add_assoc, hs _ hlen, he, nth_mid _ _ _ _ hj]
  refine (dseg_any ao cap n X [a, b, c, d] P w hn hin hl rfl ?_ ?_ hP).mono ?_
  · intro z hz
    simp at hz
    rcases hz with rfl | rfl | rfl | rfl
    · exact hb.1
    · exact hb.2.1
    · exact hb.2.2.1
    · exact hb.2.2.2
  · intro i hi
    match i, hi with
    | 0, _ => exact hnum [] (enc b ++ (enc c ++ enc d)) a (by simp)
    | 1, _ => exact hnum (([a, b, c, d].take 1).flatMap enc) (enc c ++ enc d) b (by simp)
    | 2, _ => exact hnum (([a, b, c, d].take 2).flatMap enc) (enc d) c (by simp)
    | 3, _ => exact hnum (([a, b, c, d].take 3).flatMap enc) [] d (by simp)
  · rintro e w' ⟨S, hS, he, hbw⟩
    match S, hS with
    | [s0, s1, s2, s3, s4, s5], _ => exact ⟨s0, s1, s2, s3, s4, s5, he, hbw⟩
def G1 (r : Option Nat) (wA : World) (g n k : Nat) (v4 v5 v6 v7 : Value) (wr : World) : Prop := ∃ t : Nat, v7 = .int .i64 t ∧ t ≤ n ∧ n - t ≤ k ∧ GT r wA g t v4 v5 v6 wr
end Go.Proofs.YtlllfljdagjknaaDoor
