/-
  zzLinesEqual. No statement of the seat is proved here.
-/
import Derived.Test.YtfbeeekakfllpaaDoorRf
import Derived.Test.YtfbeeekakfllpaaDoorRd
namespace Go.Proofs.YtfbeeekakfllpaaDoor
open Go.RowKit
set_option linter.unusedVariables false
set_option linter.unusedSimpArgs false
/-- a line of segments as a reader sees it -/
def Row1 (w : World) (x : Value) (xs : List Sg) : Prop := ∃ (ao : Option Addr) (cap : Nat), x = .slice ao xs.length cap ∧ ∀ j, (h : j < xs.length) → ∃ g, ao = some ⟨g, 0, none⟩ ∧ ∀ c, c < 6 → w.cell? ⟨g, j * 6 + c, none⟩ = (sgRow (xs[j]'h))[c]?
/-- lines of segments as a reader sees them -/
def Lv (w : World) (v : Value) (R : List (List Sg)) : Prop := ∃ (g cap : Nat), v = .slice (some ⟨g, 0, none⟩) R.length cap ∧ ∀ k, (h : k < R.length) → ∃ x, w.cell? ⟨g, k, none⟩ = some x ∧ Row1 w x (R[k]'h)
theorem OwnS.row1 {w : World} {B : Nat} {x : Value} {xs : List Sg} (h : OwnS w B x xs) : Row1 w x xs := by
  obtain ⟨ao, cap, hx, hf⟩ := h.form
  rw [List.length_map] at hx
  refine ⟨ao, cap, hx, fun j hj => ?_⟩
  obtain ⟨g, cap', hx', _, _, hc, _⟩ := OwnT.at h j (by simpa using hj)
  rw [hx, List.length_map] at hx'
  cases hx'
  refine ⟨g, rfl, fun c hc6 => ?_⟩
  rw [hc c hc6, List.getElem_map]
theorem Lns.lv {w : World} {B : Nat} {v : Value} {cvs : List Value} {lv : Value} {rows : List (List Sg)} {cur : List Sg} (h : Lns w B v cvs lv rows cur) : Lv w v (rows ++ [cur]) := by
  obtain ⟨g, cap, hv, _⟩ := h.out.at cvs.length (by simp)
  have hl : (cvs ++ [lv]).length = (rows ++ [cur]).length := by simp [h.rl]
  refine ⟨g, cap, by rw [hv, hl], fun k hk => ?_⟩
  obtain ⟨g', cap', hv', _, _, hc, _⟩ := h.out.at k (by rw [hl]; exact hk)
  rw [hv] at hv'
  cases hv'
  refine ⟨_, hc, ?_⟩
  rw [List.length_append] at hk
  rcases (show k < rows.length ∨ k = rows.length by simp at hk; omega) with c | c
  · have h1 := h.cl k (by rw [h.rl]; exact c) c
    rw [List.getElem_append_left (by rw [h.rl]; exact c), List.getElem_append_left c]
    exact OwnS.row1 h1
  · subst c
    simp only [← h.rl, List.getElem_append_right (Nat.le_refl _), Nat.sub_self, List.getElem_cons_zero]
    rw [List.getElem_append_right (by rw [h.rl]; exact Nat.le_refl _)]
    simpa [h.rl] using OwnS.row1 h.la
theorem Row1.drewN {w : World} {x : Value} {xs : List Sg} (h : Row1 w x xs) (m : Nat) : Row1 (w.drewN m) x xs := h
set_option maxRecDepth 100000 in
set_option maxHeartbeats 4000000 in
theorem le_any (va vb : Value) (R : List (List Sg)) (w : World) (ha : Lv w va R) (hb : Lv w vb R) (hR : R.length ≤ 33554432) (hR2 : ∀ x ∈ R, x.length ≤ 33554432) :
    Calls Tryd.prog 20 #[va, vb] w fun e w' => e = .returned (.bool true) ∧ ∃ m, w' = w.drewN m := by
  obtain ⟨ga, capa, rfl, hra⟩ := ha
  obtain ⟨gb, capb, rfl, hrb⟩ := hb
  obtain ⟨N, hN⟩ : ∃ N, R.length = N := ⟨_, rfl⟩
  have HR := Lib.hid (And.intro hra (And.intro hrb (And.intro hR2 hN)))
  rw [hN] at hR ⊢
  clear hra hrb hR2 hN
  go_enter Tryd.func20, Tryd.ntmps20
  go_wp2_with fail
  go_loopg [14] N (fun k x wx => ∃ i m : Nat, i ≤ N ∧ N - i ≤ k ∧ x = .int .i64 i ∧ wx = w.drewN m)
  case atStart => exact ⟨0, 0, Nat.zero_le _, Nat.le_refl _, rfl, rfl⟩
  case round =>
    obtain ⟨i, m, hi, hik, rfl, hwx⟩ := hrel
    rcases (show N = i ∨ i < N by omega) with rfl | hlt
    · have HW := Lib.hid hwx
      clear hwx
      go_wp2_with fail
      go_ret
      exact ⟨rfl, m, HW.out⟩
    · have hi2 : i < R.length := by rw [HR.out.2.2.2]; exact hlt
      obtain ⟨xa, hxa, aoa, ca, rfl, hra⟩ := HR.out.1 i hi2
      obtain ⟨xb, hxb, aob, cb, rfl, hrb⟩ := HR.out.2.1 i hi2
      have hl := HR.out.2.2.1 _ (List.getElem_mem hi2)
      obtain ⟨xs, hxs⟩ : ∃ xs, R[i]'hi2 = xs := ⟨_, rfl⟩
      rw [hxs] at hxa hxb hl
      simp only [hxs] at hra hrb
      obtain ⟨M, hM⟩ : ∃ M, xs.length = M := ⟨_, rfl⟩
      rw [hM] at hxa hxb hl
      have hxa' : wr.cell? ⟨ga, i, none⟩ = some (.slice aoa M ca) := by rw [hwx]; exact hxa
      have hxb' : wr.cell? ⟨gb, i, none⟩ = some (.slice aob M cb) := by rw [hwx]; exact hxb
      have HX := Lib.hid (And.intro hra (And.intro hrb (And.intro hM hwx)))
      clear hra hrb hM hwx hxa hxb
      go_wp2_with fail
      go_quiet (fail)
      go_wp2_with fail
      go_loopg [33] M (fun k x wx => ∃ j m2 : Nat, j ≤ M ∧ M - j ≤ k ∧ x = .int .i64 j ∧ wx = w.drewN m2)
      case atStart => exact ⟨0, _, Nat.zero_le _, Nat.le_refl _, rfl, by rw [HX.out.2.2.2]; simp; rfl⟩
      case round =>
        obtain ⟨j, m2, hj, hjk, rfl, hwy⟩ := hrel
        obtain ⟨WY, rfl⟩ : ∃ WY : World, WY = wr := ⟨_, rfl⟩
        rcases (show M = j ∨ j < M by omega) with rfl | hjM
        · have HW := Lib.hid hwy
          clear hwy
          go_wp2_with fail
          go_roundg (N - (i + 1))
          case measure => omega
          case rel => exact ⟨i + 1, m2, by omega, Nat.le_refl _, by go_num, HW.out⟩
        · have hj2 : j < xs.length := by rw [HX.out.2.2.1]; exact hjM
          obtain ⟨g1, rfl, hc1⟩ := HX.out.1 j hj2
          obtain ⟨g2, rfl, hc2⟩ := HX.out.2.1 j hj2
          obtain ⟨sg, hsg⟩ : ∃ sg, xs[j]'hj2 = sg := ⟨_, rfl⟩
          simp only [hsg] at hc1 hc2
          have p0 : WY.cell? ⟨ga, i, none⟩ = some (.slice (some ⟨g1, 0, none⟩) M ca) := by rw [hwy]; rw [HX.out.2.2.2] at hxa'; exact hxa'
          have p1 : WY.cell? ⟨gb, i, none⟩ = some (.slice (some ⟨g2, 0, none⟩) M cb) := by rw [hwy]; rw [HX.out.2.2.2] at hxb'; exact hxb'
          have a0 : WY.cell? ⟨g1, j * 6, none⟩ = some (.int .i64 sg.col) := by rw [hwy]; exact hc1 0 (by omega)
          have a1 : WY.cell? ⟨g1, j * 6 + 1, none⟩ = some (.int .i64 sg.n) := by rw [hwy]; exact hc1 1 (by omega)
          have a2 : WY.cell? ⟨g1, j * 6 + 2, none⟩ = some (.int .i64 0) := by rw [hwy]; exact hc1 2 (by omega)
          have a3 : WY.cell? ⟨g1, j * 6 + 3, none⟩ = some (.int .i64 sg.ol) := by rw [hwy]; exact hc1 3 (by omega)
          have a4 : WY.cell? ⟨g1, j * 6 + 4, none⟩ = some (.int .i64 sg.oc) := by rw [hwy]; exact hc1 4 (by omega)
          have a5 : WY.cell? ⟨g1, j * 6 + 5, none⟩ = some (.int .i64 sg.nm) := by rw [hwy]; exact hc1 5 (by omega)
          have b0 : WY.cell? ⟨g2, j * 6, none⟩ = some (.int .i64 sg.col) := by rw [hwy]; exact hc2 0 (by omega)
          have b1 : WY.cell? ⟨g2, j * 6 + 1, none⟩ = some (.int .i64 sg.n) := by rw [hwy]; exact hc2 1 (by omega)
          have b2 : WY.cell? ⟨g2, j * 6 + 2, none⟩ = some (.int .i64 0) := by rw [hwy]; exact hc2 2 (by omega)
          have b3 : WY.cell? ⟨g2, j * 6 + 3, none⟩ = some (.int .i64 sg.ol) := by rw [hwy]; exact hc2 3 (by omega)
          have b4 : WY.cell? ⟨g2, j * 6 + 4, none⟩ = some (.int .i64 sg.oc) := by rw [hwy]; exact hc2 4 (by omega)
          have b5 : WY.cell? ⟨g2, j * 6 + 5, none⟩ = some (.int .i64 sg.nm) := by rw [hwy]; exact hc2 5 (by omega)
          have HW := Lib.hid hwy
          clear hwy hc1 hc2 hsg hxa' hxb'
          go_wp2_with fail
          go_quiet (fail)
          go_wp2_with fail
          go_roundg (M - (j + 1))
          case measure => omega
          case rel => exact ⟨j + 1, _, by omega, Nat.le_refl _, by go_num, by rw [HW.out]; simp; rfl⟩
end Go.Proofs.YtfbeeekakfllpaaDoor
