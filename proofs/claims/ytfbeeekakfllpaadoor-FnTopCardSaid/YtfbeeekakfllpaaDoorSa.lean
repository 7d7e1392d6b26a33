/-
  scan and updateGeneratedLineAndColumn where nothing was printed since; both in one. No statement of the seat is proved here.
-/
import Derived.Test.YtfbeeekakfllpaaDoorSn
import Derived.Test.YtfbeeekakfllpaaDoorUpd
import Derived.Laws.BytesArg
namespace Go.Proofs.YtfbeeekakfllpaaDoor
open Go.RowKit
set_option linter.unusedVariables false
set_option linter.unusedSimpArgs false
/-- the printed text: from u on it is T -/
def OutV (v : Value) (u : Nat) (T : ByteArray) (w : World) : Prop := (v = .slice none 0 0 ∧ u = 0 ∧ T.size = 0) ∨ ∃ o cap, v = .slice (some ⟨o, 0, none⟩) (u + T.size) cap ∧ Lib.Bytes w o u T ∧ o < w.heap.size ∧ u + T.size ≤ cap
theorem size0 {T : ByteArray} (h : T.size = 0) : T = ByteArray.empty := by
  apply ByteArray.ext
  apply Array.eq_empty_of_size_eq_zero
  exact h
set_option maxRecDepth 100000 in
set_option maxHeartbeats 2000000 in
theorem scan_none (f B : Nat) (k0 : Rk) (q : Pq) (v : Value) (u : Nat) (w : World) (hlu : k0.last = (u : Nat)) (h : Rf w f B k0 q) (hcz : u ≤ 4194304) (ho : OutV v u ByteArray.empty w) :
    Calls Tryd.prog 18 #[.pointer (some ⟨f, 0, none⟩), v] w (IsR f B k0 q w (u : Int)) := by
  have e13 := h.blk.cell 14
  simp only [Rk.cells] at e13
  rw [hlu] at e13
  have hfl := h.blk.lt
  have HH := Lib.hid (And.intro h hlu)
  have HF : Hid (∀ wr, wr = w.iter ByteArray.empty 0 → Rst w f B k0 wr k0 q ∧ wr.cell? ⟨f, 14, none⟩ = some (.int .i64 u) ∧ It wr w.heap.size ByteArray.empty 0) := Lib.hid (fun wr hw => by
    subst hw
    have hg : w.grownBy (w.iter ByteArray.empty 0) none := World.grownBy_alloc _ _ _
    have hs := (Rst.refl h).kept hg
    have e := hs.rf.blk.cell 14
    simp only [Rk.cells] at e
    rw [hlu] at e
    exact ⟨hs, e, It.new _ _⟩)
  clear h hlu
  rcases ho with ⟨rfl, rfl, _⟩ | ⟨o, cap, rfl, hby, hol, hcp⟩
  · have hcv := run_convert_bytes_nil (P := Tryd.prog) (w := w) 22 5 Tryd.underlying22 Tryd.underlying5 0 0 9 Tryd.underlying9
    go_enter Tryd.func18, Tryd.ntmps18
    go_wp2_with fail
    go_loopg [] 0 (fun k wr => wr = w.iter ByteArray.empty 0)
    case atStart => rfl
    case round =>
      obtain ⟨hS, e14, hit⟩ := HF.out _ hrel
      have hfl := hS.rf.blk.lt
      have f14 := hS.rf.blk.free 14
      have HS := Lib.hid (And.intro hS hit)
      clear hS hit hrel e13 hcv
      go_upto_region 16 with (refine wpList_next_end rfl _ rfl w.heap.size ByteArray.empty 0 rfl HS.out.2 (by decide) ?_)
      go_wp2_with fail
      go_end0
      have hx := Rx.fin ((Rx.start HS.out.1.rf).put 14 (.int .i64 0)) { k0 with last := 0 } q rfl rfl rfl rfl rfl rfl rfl (by kernel_rfl)
      exact ⟨_, rfl, HS.out.1.trans hx, ⟨rfl, rfl, rfl, rfl⟩, rfl⟩
  · have hcv := Lib.run_convert_whole (P := Tryd.prog) w 22 5 9 Tryd.underlying22 Tryd.underlying5 Tryd.underlying9 o u ByteArray.empty hby (cap - u)
    have hcv0 := Lib.run_convert_whole (P := Tryd.prog) w 22 5 9 Tryd.underlying22 Tryd.underlying5 Tryd.underlying9 o 0 ByteArray.empty (fun i hi => absurd hi (Nat.not_lt_zero i)) 0
    simp only [ByteArray.size_empty, Nat.add_zero] at hcp hcv hcv0 ⊢
    clear hby
    rcases Nat.eq_or_lt_of_le hcp with rfl | hlt
    all_goals
      go_enter Tryd.func18, Tryd.ntmps18
      go_wp2_with fail
      go_loopg [] 0 (fun k wr => wr = w.iter ByteArray.empty 0)
      case atStart => rfl
      case round =>
        obtain ⟨hS, e14, hit⟩ := HF.out _ hrel
        have hfl := hS.rf.blk.lt
        have f14 := hS.rf.blk.free 14
        have HS := Lib.hid (And.intro hS hit)
        clear hS hit hrel e13 hcv hcv0
        go_upto_region 16 with (refine wpList_next_end rfl _ rfl w.heap.size ByteArray.empty 0 rfl HS.out.2 (by decide) ?_)
        go_wp2_with fail
        go_end0
        have hx := Rx.fin ((Rx.start HS.out.1.rf).put 14 (.int .i64 u)) { k0 with last := u } q rfl rfl rfl rfl rfl rfl rfl (by kernel_rfl)
        exact ⟨_, rfl, HS.out.1.trans hx, ⟨rfl, rfl, rfl, rfl⟩, rfl⟩
theorem scan_all (f B : Nat) (k0 : Rk) (q : Pq) (v : Value) (u m : Nat) (T : ByteArray) (w : World) (hlu : k0.last = (u : Nat)) (h : Rf w f B k0 q) (hB : B ≤ w.heap.size) (ho : OutV v u T w) (hof : ∀ o, v.ownBlock = some o → ¬ k0.fp f o) (hcz : u + T.size ≤ 4194304)
    (hb : Qb q u m) (hm1 : m ≤ 2097152) :
    Calls Tryd.prog 18 #[.pointer (some ⟨f, 0, none⟩), v] w (IsR f B k0 (runQ T q T.size) w ((u + T.size : Nat) : Int)) := by
  rcases Nat.eq_zero_or_pos T.size with h0 | h0
  · obtain rfl := size0 h0
    exact scan_none f B k0 q v u w hlu h (by omega) ho
  · rcases ho with ⟨rfl, _, h1⟩ | ⟨o, cap, rfl, hby, hol, hcp⟩
    · omega
    · exact scan_any f B k0 q o u cap m T w hlu h hB hby hol (hof o rfl) h0 hcp hcz hb hm1
set_option maxRecDepth 100000 in
set_option maxHeartbeats 2000000 in
theorem upd_none (c0 : Cb) (g : Nat) (q : Pq) (sm v : Value) (u : Nat) (w : World) (hlu : c0.lu = (u : Nat)) (h : Cbd w g (up c0 sm q) (txt false q.toks)) (hcz : u ≤ 4194304) (ho : OutV v u ByteArray.empty w) :
    Calls Tryd.prog 27 #[.pointer (some ⟨g, 0, none⟩), v] w (IsUpd c0 g q (u : Int) w sm) := by
  have e13 := h.blk.cell 13
  simp only [Cb.cells, up] at e13
  rw [hlu] at e13
  have hfl := h.blk.lt
  have HF : Hid (∀ wr, wr = w.iter ByteArray.empty 0 → Rw w sm wr g (up c0 sm q).cells sm (txt false q.toks) ∧ wr.cell? ⟨g, 13, none⟩ = some (.int .i64 u) ∧ It wr w.heap.size ByteArray.empty 0) := Lib.hid (fun wr hw => by
    subst hw
    have hg : w.grownBy (w.iter ByteArray.empty 0) none := World.grownBy_alloc _ _ _
    have hs : Rw w sm (w.iter ByteArray.empty 0) g (up c0 sm q).cells sm (txt false q.toks) := ⟨h.blk.gb hg (by simp), h.own.gb hg (Classical.em _), h.tab.below ((Below.refl _ _).grown hg (Nat.le_of_lt hfl) (fun k e => by cases e)), Fr.alloc _ _⟩
    have e := hs.blk.cell 13
    simp only [Cb.cells, up] at e
    rw [hlu] at e
    exact ⟨hs, e, It.new _ _⟩)
  clear h hlu
  rcases ho with ⟨rfl, rfl, _⟩ | ⟨o, cap, rfl, hby, hol, hcp⟩
  · have hcv := run_convert_bytes_nil (P := Tryd.prog) (w := w) 22 5 Tryd.underlying22 Tryd.underlying5 0 0 9 Tryd.underlying9
    go_enter Tryd.func27, Tryd.ntmps27
    go_wp2_with fail
    go_loopg [] 0 (fun k wr => wr = w.iter ByteArray.empty 0)
    case atStart => rfl
    case round =>
      obtain ⟨hS, e14, hit⟩ := HF.out _ hrel
      have hfl := hS.blk.lt
      have f14 := hS.blk.free 13
      have HS := Lib.hid (And.intro hS hit)
      clear hS hit hrel e13 hcv
      go_upto_region 21 with (refine wpList_next_end rfl _ rfl w.heap.size ByteArray.empty 0 rfl HS.out.2 (by decide) ?_)
      go_wp2_with fail
      go_end0
      exact ⟨sm, rfl, HS.out.1.put 13 (.int .i64 0)⟩
  · have hcv := Lib.run_convert_whole (P := Tryd.prog) w 22 5 9 Tryd.underlying22 Tryd.underlying5 Tryd.underlying9 o u ByteArray.empty hby (cap - u)
    have hcv0 := Lib.run_convert_whole (P := Tryd.prog) w 22 5 9 Tryd.underlying22 Tryd.underlying5 Tryd.underlying9 o 0 ByteArray.empty (fun i hi => absurd hi (Nat.not_lt_zero i)) 0
    simp only [ByteArray.size_empty, Nat.add_zero] at hcp hcv hcv0 ⊢
    clear hby
    rcases Nat.eq_or_lt_of_le hcp with rfl | hlt
    all_goals
      go_enter Tryd.func27, Tryd.ntmps27
      go_wp2_with fail
      go_loopg [] 0 (fun k wr => wr = w.iter ByteArray.empty 0)
      case atStart => rfl
      case round =>
        obtain ⟨hS, e14, hit⟩ := HF.out _ hrel
        have hfl := hS.blk.lt
        have f14 := hS.blk.free 13
        have HS := Lib.hid (And.intro hS hit)
        clear hS hit hrel e13 hcv hcv0
        go_upto_region 21 with (refine wpList_next_end rfl _ rfl w.heap.size ByteArray.empty 0 rfl HS.out.2 (by decide) ?_)
        go_wp2_with fail
        go_end0
        exact ⟨sm, rfl, HS.out.1.put 13 (.int .i64 u)⟩
theorem upd_all (c0 : Cb) (g : Nat) (q : Pq) (sm v : Value) (u m : Nat) (T : ByteArray) (w : World) (hlu : c0.lu = (u : Nat)) (hcov : c0.cov = true) (h : Cbd w g (up c0 sm q) (txt false q.toks)) (ho : OutV v u T w) (hog : v.ownBlock ≠ some g) (hso : ∀ o, v.ownBlock = some o → sm.ownBlock ≠ some o) (hcz : u + T.size ≤ 4194304)
    (hb : Qb q u m) (hm1 : m ≤ 1048576) :
    Calls Tryd.prog 27 #[.pointer (some ⟨g, 0, none⟩), v] w (IsUpd c0 g (runQ T q T.size) ((u + T.size : Nat) : Int) w sm) := by
  rcases Nat.eq_zero_or_pos T.size with h0 | h0
  · obtain rfl := size0 h0
    exact upd_none c0 g q sm v u w hlu h (by omega) ho
  · rcases ho with ⟨rfl, _, h1⟩ | ⟨o, cap, rfl, hby, hol, hcp⟩
    · omega
    · have := hb.gc1; have := hb.gcol1; have := hb.gl1; have := hb.len
      exact upd_any c0 g q sm o u cap T w hlu hcov h hby hol (fun e => hog (e ▸ rfl)) (hso o rfl) h0 hcp hcz hb.gc0 (by omega) hb.gcol0 (by omega) hb.gl0 (by omega) (by omega) ⟨hb.on0, by have := hb.on1; omega⟩ hb.ok
end Go.Proofs.YtfbeeekakfllpaaDoor
