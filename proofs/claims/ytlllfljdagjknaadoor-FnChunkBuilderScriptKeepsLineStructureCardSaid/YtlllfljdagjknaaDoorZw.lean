/-
  The law's small functions: the copy of its argument, the builder's making, looks into it, the two wrapped methods. No statement of the seat is proved here.
-/
import Derived.Test.YtlllfljdagjknaaDoorUpd
import Derived.Test.YtlllfljdagjknaaDoorDsg
namespace Go.Proofs.YtlllfljdagjknaaDoor
open Go.RowKit
set_option linter.unusedVariables false
theorem cl_info : (Tryd.prog.info? 21).map (fun i => (i.zero, i.size, i.bytes)) = some (some (.int .i32 0), 1, 4) := by kernel_rfl
theorem cl_any (ao : Option Addr) (cap : Nat) (zs : List Int) (w : World) (hin : In .i32 w ao zs) (hl : zs.length ≤ 1048576) :
    Calls Tryd.prog 5 #[.slice ao zs.length cap] w (Owned .i32 21 w zs) := by
  have hnil := fun (w : World) => Lib.run_eql_slice_nil (P := Tryd.prog) w 22 21 ao zs.length cap 0 0 Tryd.underlying22
  rcases ao with _ | x
  · have hz : zs = [] := by
      rcases hin with h | ⟨b, off, h, _⟩
      · exact h
      · cases h
    subst hz
    clear hin hl
    simp only [List.length_nil, Option.isNone_none] at hnil
    go_enter Tryd.func5, Tryd.ntmps5
    go_wp2
    go_ret
    exact ⟨_, rfl, Own.nil _ _ _ _, Below.refl _ _⟩
  · have HI := Lib.hid hin
    clear hin
    go_enter Tryd.func5, Tryd.ntmps5
    go_wp2_with (at_make; refine wpList_make_ints _ rfl _ _ 22 rfl 21 .i32 4 Tryd.underlying22 cl_info zs.length rfl rfl (by omega) (by unfold maxLen; omega) ?_; intro w1 hb hgr)
    have hb1 : Below w.heap.size w w1 := (Below.refl _ w).grown hgr (Nat.le_refl _) (fun k h => by cases h)
    have HB := Lib.hid (And.intro hb hb1)
    clear hb hgr hb1
    go_loopw [4] (fun i wr => ∃ k : Nat, k ≤ zs.length ∧ i = .int .i64 k ∧ Blk wr w.heap.size 21 (ints .i32 (cpy zs k)) ∧ Below w.heap.size w wr) (fun i _ => zs.length - (intOf i).toNat)
    case atStart => exact ⟨0, Nat.zero_le _, rfl, by rw [cpy_zero]; exact HB.out.1, HB.out.2⟩
    case round =>
      obtain ⟨k, hk, rfl, hB, hbel⟩ := hrel
      rcases (show k = zs.length ∨ k < zs.length by omega) with rfl | hlt
      · rw [cpy_end] at hB
        have HF := Lib.hid (And.intro hB hbel)
        clear hB hbel
        go_wp2
        go_ret
        exact ⟨_, rfl, Own.of_blk HF.out.1 (Nat.le_refl _) (by unfold maxLen; omega), HF.out.2⟩
      · obtain ⟨b, off, hx, hblt, hc⟩ := HI.out.at hlt
        cases hx
        have hc' := (hbel.cell (p := ⟨b, off + k, none⟩) hblt).trans hc
        have hcl := cpy_length zs k hk
        have hs := hB.int (i := k) (by omega)
        have hf := hB.free k
        have hB2 := hB.put k (nth zs k)
        rw [cpy_step zs k hlt] at hB2
        have HN := Lib.hid (And.intro hB2 (hbel.setCell (p := ⟨w.heap.size, k, none⟩) (Nat.le_refl _) (.int .i32 (nth zs k))))
        clear hB hbel hB2 hc hcl
        go_wp2
        go_roundw
        case rel => exact ⟨k + 1, by omega, by go_num, HN.out.1, HN.out.2⟩
        case measure => simp [intOf]; omega
/-- a fresh builder -/
def c0 (nm : Value) : Cb := ⟨.pointer none, .slice none 0 0, .slice none 0 0, nm, .slice none 0 0, ByteArray.empty, ⟨0, 0, 0, 0, 0, 0⟩, 0, 0, 0, -1, 0, false, false, false, true⟩
def q0 : Pq := ⟨[], 0, 0, 0, 0, 0, 0, false, false⟩
def IsMk (w : World) (e : Ending) (w' : World) : Prop := ∃ r, e = .returned (.agg (c0 (.map r)).cells) ∧ Below w.heap.size w w'
def IsNew (w : World) (e : Ending) (w' : World) : Prop := ∃ g r, e = .returned (.pointer (some ⟨g, 0, none⟩)) ∧ Blk w' g 50 (c0 (.map r)).cells ∧ w.heap.size ≤ g ∧ Below w.heap.size w w'
noncomputable def zc50 : Array Value := cellsOf ((zeroValue 50).run Tryd.prog default)
theorem alloc50 (w : World) : (Instr.alloc 50 true (.tuple #[])).run Tryd.prog w = .ok (.pointer (some ⟨w.heap.size, 0, none⟩)) (w.alloc (.cells zc50 50)) := by kernel_rfl
theorem size50 (nm : Value) : zc50.size = (c0 nm).cells.size := by kernel_rfl
theorem info50 (nm : Value) : (Tryd.prog.info? 50).map (·.size) = some (c0 nm).cells.size := by kernel_rfl
theorem one50 (r : Option Nat) : (c0 (.map r)).cells.all (·.oneCell') = true := by kernel_rfl
theorem build50 (r : Option Nat) (w : World) : (Instr.build 50 [(0, .pointer none), (10, .agg #[.int .i32 (-1)]), (4, .slice none 0 0), (13, .bool false), (3, .map r), (15, .bool true)].toArray).run Tryd.prog w = .ok (.agg (c0 (.map r)).cells) w := by kernel_rfl
set_option maxRecDepth 100000 in
set_option maxHeartbeats 4000000 in
theorem mk_any (w : World) : Calls Tryd.prog 15 #[.pointer none, .slice none 0 0, .bool false] w (IsMk w) := by
  have hmk := fun (w : World) => run_makeMap (P := Tryd.prog) 42 w
  have hB : Hid (Blk ((w.alloc (.cells zc50 50)).alloc (.map #[] 0)) w.heap.size 50 zc50) := Lib.hid ((Blk.new w 50 zc50).alloc _)
  go_enter Tryd.func15, Tryd.ntmps15
  go_wp2_with (first
    | (refine wpList_alloc_zero rfl 50 rfl zc50 alloc50 ?_)
    | (refine wpList_build rfl 50 _ rfl [(0, .pointer none), (10, .agg #[.int .i32 (-1)]), (4, .slice none 0 0), (13, .bool false), (3, .map (some (w.heap.size + 1))), (15, .bool true)] (by simp [Act.eval, go_sem]) (c0 (.map (some (w.heap.size + 1)))).cells (build50 _) ?_)
    | (refine wpList_store_blk rfl 50 _ _ rfl w.heap.size zc50 (c0 (.map (some (w.heap.size + 1)))).cells hB.out rfl rfl (size50 _) (info50 _) (one50 _) ?_; intro w5 hb5 hg5))
  simp only [Act.put]
  refine bodyPost_ret (v := .agg (c0 (.map (some (w.heap.size + 1)))).cells) (results_cell_row (d := _) Tryd.results15 _ _ w.heap.size 50 _ (0, 0) (by rfl) hb5 Tryd.underlying50 rfl (info50 _)) rfl ⟨_, rfl, ?_⟩
  exact (((Below.refl _ w).alloc (Nat.le_refl _) _).alloc (by simp) _).grown hg5 (by simp; omega) (fun k e => by cases e; exact Nat.le_refl _)
set_option maxRecDepth 100000 in
set_option maxHeartbeats 4000000 in
theorem new_any (w : World) : Calls Tryd.prog 6 #[.bool false] w (IsNew w) := by
  go_enter Tryd.func6, Tryd.ntmps6
  go_wp2_with (first
    | (go_at_call 15; refine (mk_any _).mono ?_; rintro e w1 ⟨r, rfl, hb⟩; have HB := Lib.hid hb; clear hb)
    | (refine wpList_alloc_zero rfl 50 rfl zc50 alloc50 ?_; refine wpList_store_new rfl 50 (.tmp 3) (.tmp 5) rfl zc50 (c0 (.map r)).cells rfl rfl (info50 _) (size50 _) (one50 _) ?_))
  go_ret
  exact ⟨w1.heap.size, r, rfl, Blk.new _ _ _, HB.out.size, HB.out.alloc HB.out.size _⟩
def byg (f : Cb → Value) (g : Nat) (c : Cb) (w : World) (e : Ending) (w' : World) : Prop := e = .returned (f c) ∧ Below w.heap.size w w'
theorem prev_any (g : Nat) (c : Cb) (w : World) (hb : Blk w g 50 c.cells) : Calls Tryd.prog 8 #[.pointer (some ⟨g, 0, none⟩)] w (fun e w' => e = .returned (.agg c.p.cells) ∧ Below w.heap.size w w') := by
  have e6 := hb.cell 6
  have e7 := hb.cell 7
  have e8 := hb.cell 8
  have e9 := hb.cell 9
  have e10 := hb.cell 10
  have e11 := hb.cell 11
  have e12 := hb.cell 12
  have hg := hb.lt
  simp only [Cb.cells] at e6 e7 e8 e9 e10 e11 e12
  unfold St.cells
  clear hb
  go_enter Tryd.func8, Tryd.ntmps8
  go_wp2
  refine bodyPost_ret (v := .agg #[.int .i64 c.p.gl, .int .i64 c.p.gc, .int .i64 c.p.si, .int .i64 c.p.ol, .int .i64 c.p.oc, .int .i64 c.p.on, .bool false]) (by simp [results, Tryd.results8, go_sem]) rfl ⟨rfl, ?_⟩
  repeat (first | exact (Below.refl _ w).alloc (Nat.le_refl _) _ | refine Below.setCell ?_ (Nat.le_refl _) _)
theorem gcol_any (g : Nat) (c : Cb) (w : World) (hb : Blk w g 50 c.cells) : Calls Tryd.prog 10 #[.pointer (some ⟨g, 0, none⟩)] w (fun e w' => e = .returned (.int .i64 c.gcol) ∧ w = w') := by
  have e14 := hb.cell 14
  simp only [Cb.cells] at e14
  clear hb
  go_enter Tryd.func10, Tryd.ntmps10
  go_wp2
  go_ret
  exact ⟨rfl, rfl⟩
theorem lu_any (g : Nat) (c : Cb) (w : World) (hb : Blk w g 50 c.cells) : Calls Tryd.prog 11 #[.pointer (some ⟨g, 0, none⟩)] w (fun e w' => e = .returned (.int .i64 c.lu) ∧ w = w') := by
  have e14 := hb.cell 13
  simp only [Cb.cells] at e14
  clear hb
  go_enter Tryd.func11, Tryd.ntmps11
  go_wp2
  go_ret
  exact ⟨rfl, rfl⟩
theorem sm_any (g : Nat) (c : Cb) (w : World) (hb : Blk w g 50 c.cells) : Calls Tryd.prog 12 #[.pointer (some ⟨g, 0, none⟩)] w (fun e w' => e = .returned c.sm ∧ w = w') := by
  have e14 := hb.cell 1
  simp only [Cb.cells] at e14
  clear hb
  go_enter Tryd.func12, Tryd.ntmps12
  go_wp2
  go_ret
  exact ⟨rfl, rfl⟩
theorem zzamw_any (g : Nat) (c : Cb) (xs : List Int) (s : St) (w : World) (h : Cbd w g c xs) (hlb : lastOf xs = 0 ∨ lastOf xs = 59 ∨ B64 (lastOf xs))
    (h1 : Bnd (s.gc - c.p.gc)) (h2 : Bnd (s.si - c.p.si)) (h3 : Bnd (s.ol - c.p.ol)) (h4 : Bnd (s.oc - c.p.oc)) (hl : xs.length ≤ 1073741000) :
    Calls Tryd.prog 9 #[.pointer (some ⟨g, 0, none⟩), .agg s.cells] w (IsApp g c xs s w) := by
  have hb : Cbd (w.alloc (.cells s.cells 31)) g c xs := ⟨h.blk.alloc _, h.own.alloc _, h.tab.below ((Below.refl _ _).alloc (Nat.le_of_lt h.blk.lt) _)⟩
  have HC := Lib.hid (amw_any g c xs s (w.alloc (.cells s.cells 31)) hb hlb h1 h2 h3 h4 hl)
  clear hb h hlb h1 h2 h3 h4
  unfold St.cells at HC ⊢
  go_enter Tryd.func9, Tryd.ntmps9
  go_wp2_with (go_at_call 17; refine HC.out.mono ?_; rintro e w' ⟨v', rfl, hc, hf⟩; have H := Lib.hid (And.intro hc ((Fr.alloc c.sm (.cells #[.int .i64 s.gl, .int .i64 s.gc, .int .i64 s.si, .int .i64 s.ol, .int .i64 s.oc, .int .i64 s.on, .bool false] 31)).trans hf)); clear hc hf)
  go_end0
  exact ⟨v', rfl, H.out.1, H.out.2⟩
set_option maxRecDepth 100000 in
theorem zzupd_any (c0 : Cb) (g : Nat) (q : Pq) (sm : Value) (o u cap : Nat) (T : ByteArray) (w : World) (hlu : c0.lu = (u : Nat)) (hcov : c0.cov = true)
    (h : Cbd w g (up c0 sm q) (txt false q.toks)) (ho : Lib.Bytes w o u T) (hol : o < w.heap.size) (hog : o ≠ g) (hso : sm.ownBlock ≠ some o) (hT : 0 < T.size) (hc : u + T.size ≤ cap) (hcz : u + T.size ≤ 2097152)
    (hq0 : 0 ≤ q.gc) (hq1 : q.gc ≤ 16777216) (hq2 : 0 ≤ q.gcol) (hq3 : q.gcol ≤ 16777216) (hq4 : 0 ≤ q.gl) (hq5 : q.gl ≤ 16777216) (hq6 : q.toks.length ≤ 16777216) :
    Calls Tryd.prog 7 #[.pointer (some ⟨g, 0, none⟩), .slice (some ⟨o, 0, none⟩) (u + T.size) cap] w (IsUpd c0 g (runQ T q T.size) ((u + T.size : Nat) : Int) w sm) := by
  have HC := Lib.hid (upd_any c0 g q sm o u cap T w hlu hcov h ho hol hog hso hT hc hcz hq0 hq1 hq2 hq3 hq4 hq5 hq6)
  clear hlu hcov h ho hol hog hso hT hc hcz hq0 hq1 hq2 hq3 hq4 hq5 hq6
  obtain ⟨m, hm⟩ : ∃ m, u + T.size = m := ⟨_, rfl⟩
  rw [hm] at HC ⊢
  clear hm
  go_enter Tryd.func7, Tryd.ntmps7
  go_wp2_with (go_at_call 16; refine HC.out.mono ?_; rintro e w' ⟨v', rfl, hc⟩; have H := Lib.hid hc; clear hc)
  go_end0
  exact ⟨v', rfl, H.out⟩
theorem bytes_yes (ao : Option Addr) (n cap : Nat) (w : World) (h : n ≤ 1048576) : Calls Tryd.prog 4 #[.slice ao n cap] w fun e w' => e = .returned (.bool true) ∧ w = w' := by
  go_enter Tryd.func4, Tryd.ntmps4
  go_wp2
  go_ret
  exact ⟨rfl, rfl⟩
theorem bytes_no (ao : Option Addr) (n cap : Nat) (w : World) (h : 1048576 < n) (hm : n ≤ maxLen) : Calls Tryd.prog 4 #[.slice ao n cap] w fun e w' => e = .returned (.bool false) ∧ w = w' := by
  unfold maxLen at hm
  go_enter Tryd.func4, Tryd.ntmps4
  go_wp2
  go_ret
  exact ⟨rfl, rfl⟩
end Go.Proofs.YtlllfljdagjknaaDoor
