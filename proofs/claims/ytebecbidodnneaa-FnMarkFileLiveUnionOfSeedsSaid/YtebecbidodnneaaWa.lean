/-
  The files that came in, opened. No statement of the seat is proved here.
-/
import Derived.Test.YtebecbidodnneaaIns
import Derived.Test.YtebecbidodnneaaRows
namespace Go.Proofs.Ytebecbidodnneaa
open Go.RowKit Go.ChangeShapes Go.WideShapes
set_option linter.unusedVariables false
set_option linter.unusedSimpArgs false

/-- what the walk is told of the files -/
def IsF (w : World) (a : Option Addr) (len cap : Nat) (fs : List Wf) : Prop := fs.length = len ∧ InS w a fs 5 FAt ∧ len ≤ maxLen ∧ ∀ i, i < fs.length → OkF (wf fs i)
theorem cF : Try.prog.cellsOf 64 = 5 := by kernel_rfl
theorem cR : Try.prog.cellsOf 128 = 3 := by kernel_rfl
theorem cP : Try.prog.cellsOf 126 = 4 := by kernel_rfl
theorem cD : Try.prog.cellsOf 130 = 2 := by kernel_rfl
theorem cSR : Try.prog.cellsOf 61 = 1 := by kernel_rfl
theorem cSP : Try.prog.cellsOf 62 = 1 := by kernel_rfl
theorem cSD : Try.prog.cellsOf 124 = 1 := by kernel_rfl
theorem cSU : Try.prog.cellsOf 67 = 1 := by kernel_rfl
theorem cU : Try.prog.cellsOf 23 = 1 := by kernel_rfl
theorem c5 : Try.prog.cellsOf 5 = 1 := by kernel_rfl
theorem c4 : Try.prog.cellsOf 4 = 1 := by kernel_rfl
theorem cI : Try.prog.cellsOf 21 = 1 := by kernel_rfl
section
variable {H : Type} {enc : TypeId × Value → H} {w : World} {base : Nat} {spare : Nat → Bool} {held : Bool}
set_option maxRecDepth 100000 in
theorem open_d {fuel : Nat} {v : Value} {x : DataW H × List MemPlace} (h : DataW.trod enc Try.prog w base spare held fuel 124 [v] = some x) :
    ∃ (a : Option Addr) (len cap : Nat) (zs : List (Int × Int)), v = .slice a len cap ∧ zs.length = len ∧ InS w a zs 2 DAt ∧ len ≤ maxLen ∧ ∀ i, i < zs.length → OkD (dp zs i) := by
  rcases open_elems Try.underlying124 Try.underlying130 cD h with hcs | ⟨x, l, c, hcs, hl, hm, hel⟩
  · simp at hcs
    exact ⟨none, 0, 0, [], hcs, rfl, .inl rfl, by simp, fun i hi => by simp at hi⟩
  · simp at hcs
    have each : ∀ i, i < l → ∃ z : Int × Int, (OkD z ∧ w.cell? (x.add (i * 2)) = some (.int .u32 z.1)) ∧ ∀ b off, (∀ k, x.add k = ⟨b, off + k, none⟩) → DAt w b (off + i * 2) z := fun i hi => by
      obtain ⟨v0, y0, n0, h0, g0⟩ := hel i hi 0 _ rfl cU (by decide)
      obtain ⟨v1, y1, n1, h1, g1⟩ := hel i hi 1 _ rfl cU (by decide)
      obtain ⟨a0, e0, _, q0⟩ := DataW.trod_int Try.underlying23 g0
      obtain ⟨a1, e1, _, q1⟩ := DataW.trod_int Try.underlying23 g1
      simp only [List.cons.injEq, and_true] at e0 e1
      subst e0 e1
      refine ⟨(a0, a1), ⟨⟨wf_u32 q0, wf_u32 q1⟩, h0⟩, fun b off hadd => ?_⟩
      rw [hadd] at h0 h1
      exact ⟨h0, by rw [Nat.add_assoc]; exact h1⟩
    obtain ⟨zs, hz1, hz2, hz3⟩ := ins_of (At := DAt) (sz := 2) (fun h => by obtain ⟨z, ⟨_, hz⟩, _⟩ := each 0 h; exact ⟨_, by simpa using hz⟩) (fun i hi => by obtain ⟨z, ⟨h1, _⟩, h2⟩ := each i hi; exact ⟨z, h1, h2⟩)
    exact ⟨some x, l, c, zs, hcs, hz1, hz2, by omega, hz3⟩
set_option maxRecDepth 100000 in
theorem open_r {fuel : Nat} {v : Value} {x : DataW H × List MemPlace} (h : DataW.trod enc Try.prog w base spare held fuel 61 [v] = some x) :
    ∃ (a : Option Addr) (len cap : Nat) (zs : List Rc), v = .slice a len cap ∧ zs.length = len ∧ InS w a zs 3 RAt ∧ len ≤ maxLen ∧ ∀ i, i < zs.length → OkR (rc zs i) := by
  rcases open_elems Try.underlying61 Try.underlying128 cR h with hcs | ⟨x, l, c, hcs, hl, hm, hel⟩
  · simp at hcs
    exact ⟨none, 0, 0, [], hcs, rfl, .inl rfl, by simp, fun i hi => by simp at hi⟩
  · simp at hcs
    have each : ∀ i, i < l → ∃ z : Rc, (OkR z ∧ w.cell? (x.add (i * 3)) = some (.int .i32 z.tg)) ∧ ∀ b off, (∀ k, x.add k = ⟨b, off + k, none⟩) → RAt w b (off + i * 3) z := fun i hi => by
      obtain ⟨v0, y0, n0, h0, g0⟩ := hel i hi 0 _ rfl cI (by decide)
      obtain ⟨v1, y1, n1, h1, g1⟩ := hel i hi 1 _ rfl c5 (by decide)
      obtain ⟨v2, y2, n2, h2, g2⟩ := hel i hi 2 _ rfl c4 (by decide)
      obtain ⟨a0, e0, _, q0⟩ := DataW.trod_int Try.underlying21 g0
      obtain ⟨a1, e1, _, q1⟩ := DataW.trod_int Try.underlying5 g1
      obtain ⟨a2, e2, _⟩ := DataW.trod_bool Try.underlying4 g2
      simp only [List.cons.injEq, and_true] at e0 e1 e2
      subst e0 e1 e2
      refine ⟨⟨a0, a1, a2⟩, ⟨⟨wf_i32 q0, wf_u8 q1⟩, h0⟩, fun b off hadd => ?_⟩
      rw [hadd] at h0 h1 h2
      exact ⟨h0, by rw [Nat.add_assoc]; exact h1, by rw [Nat.add_assoc]; exact h2⟩
    obtain ⟨zs, hz1, hz2, hz3⟩ := ins_of (At := RAt) (sz := 3) (fun h => by obtain ⟨z, ⟨_, hz⟩, _⟩ := each 0 h; exact ⟨_, by simpa using hz⟩) (fun i hi => by obtain ⟨z, ⟨h1, _⟩, h2⟩ := each i hi; exact ⟨z, h1, h2⟩)
    exact ⟨some x, l, c, zs, hcs, hz1, hz2, by omega, hz3⟩
set_option maxRecDepth 100000 in
theorem open_p {fuel : Nat} {v : Value} {x : DataW H × List MemPlace} (h : DataW.trod enc Try.prog w base spare held fuel 62 [v] = some x) :
    ∃ (a : Option Addr) (len cap : Nat) (zs : List Pt), v = .slice a len cap ∧ zs.length = len ∧ InS w a zs 4 PAt ∧ len ≤ maxLen ∧ ∀ i, i < zs.length → OkP (pt zs i) := by
  rcases open_elems Try.underlying62 Try.underlying126 cP h with hcs | ⟨x, l, c, hcs, hl, hm, hel⟩
  · simp at hcs
    exact ⟨none, 0, 0, [], hcs, rfl, .inl rfl, by simp, fun i hi => by simp at hi⟩
  · simp at hcs
    have each : ∀ i, i < l → ∃ z : Pt, (OkP z ∧ ∃ v, w.cell? (x.add (i * 4)) = some v) ∧ ∀ b off, (∀ k, x.add k = ⟨b, off + k, none⟩) → PAt w b (off + i * 4) z := fun i hi => by
      obtain ⟨v0, y0, n0, h0, g0⟩ := hel i hi 0 _ rfl cSU (by decide)
      obtain ⟨v1, y1, n1, h1, g1⟩ := hel i hi 1 _ rfl cSD (by decide)
      obtain ⟨v2, y2, n2, h2, g2⟩ := hel i hi 2 _ rfl c4 (by decide)
      obtain ⟨v3, y3, n3, h3, g3⟩ := hel i hi 3 _ rfl c4 (by decide)
      obtain ⟨ia, il, ic, iz, rfl, hz1, hz2, hz3, hz4⟩ := open_row Try.underlying67 Try.underlying23 cU g0
      obtain ⟨da, dl, dc, dz, rfl, hd1, hd2, hd3, hd4⟩ := open_d g1
      obtain ⟨a2, e2, _⟩ := DataW.trod_bool Try.underlying4 g2
      obtain ⟨a3, e3, _⟩ := DataW.trod_bool Try.underlying4 g3
      simp only [List.cons.injEq, and_true] at e2 e3
      subst e2 e3 hz1 hd1
      refine ⟨⟨iz, dz, a2, a3⟩, ⟨⟨hz3, fun k hk => wf_u32 (hz4 _ (nth_mem iz k hk)), hd3, hd4⟩, _, h0⟩, fun b off hadd => ?_⟩
      rw [hadd] at h0 h1 h2 h3
      exact ⟨ia, ic, da, dc, h0, by rw [Nat.add_assoc]; exact h1, by rw [Nat.add_assoc]; exact h2, by rw [Nat.add_assoc]; exact h3, hz2, hd2⟩
    obtain ⟨zs, hz1, hz2, hz3⟩ := ins_of (At := PAt) (sz := 4) (fun h => by obtain ⟨z, ⟨_, v, hz⟩, _⟩ := each 0 h; exact ⟨v, by simpa using hz⟩) (fun i hi => by obtain ⟨z, ⟨h1, _⟩, h2⟩ := each i hi; exact ⟨z, h1, h2⟩)
    exact ⟨some x, l, c, zs, hcs, hz1, hz2, by omega, hz3⟩
set_option maxRecDepth 100000 in
theorem open_f {fuel : Nat} {a : Option Addr} {len cap : Nat} {x : DataW H × List MemPlace} (h : DataW.trod enc Try.prog w base spare held fuel 22 [.slice a len cap] = some x) :
    ∃ fs : List Wf, IsF w a len cap fs := by
  rcases open_elems Try.underlying22 Try.underlying64 cF h with hcs | ⟨x, l, c, hcs, hl, hm, hel⟩
  · simp at hcs
    obtain ⟨rfl, rfl, rfl⟩ := hcs
    exact ⟨[], rfl, .inl rfl, by simp, fun i hi => by simp at hi⟩
  · simp at hcs
    obtain ⟨rfl, rfl, rfl⟩ := hcs
    have each : ∀ i, i < len → ∃ z : Wf, (OkF z ∧ ∃ v, w.cell? (x.add (i * 5)) = some v) ∧ ∀ b off, (∀ k, x.add k = ⟨b, off + k, none⟩) → FAt w b (off + i * 5) z := fun i hi => by
      obtain ⟨v0, y0, n0, h0, g0⟩ := hel i hi 0 _ rfl cI (by decide)
      obtain ⟨v1, y1, n1, h1, g1⟩ := hel i hi 1 _ rfl c4 (by decide)
      obtain ⟨v2, y2, n2, h2, g2⟩ := hel i hi 2 _ rfl c4 (by decide)
      obtain ⟨v3, y3, n3, h3, g3⟩ := hel i hi 3 _ rfl cSR (by decide)
      obtain ⟨v4, y4, n4, h4, g4⟩ := hel i hi 4 _ rfl cSP (by decide)
      obtain ⟨a0, e0, _, q0⟩ := DataW.trod_int Try.underlying21 g0
      obtain ⟨a1, e1, _⟩ := DataW.trod_bool Try.underlying4 g1
      obtain ⟨a2, e2, _⟩ := DataW.trod_bool Try.underlying4 g2
      obtain ⟨ra, rl, rc, rs, rfl, hr1, hr2, hr3, hr4⟩ := open_r g3
      obtain ⟨pa, pl, pc, ps, rfl, hp1, hp2, hp3, hp4⟩ := open_p g4
      simp only [List.cons.injEq, and_true] at e0 e1 e2
      subst e0 e1 e2 hr1 hp1
      refine ⟨⟨a0, a1, a2, rs, ps⟩, ⟨⟨wf_i32 q0, hr3, hr4, hp3, hp4⟩, _, h0⟩, fun b off hadd => ?_⟩
      rw [hadd] at h0 h1 h2 h3 h4
      exact ⟨ra, rc, pa, pc, h0, by rw [Nat.add_assoc]; exact h1, by rw [Nat.add_assoc]; exact h2, by rw [Nat.add_assoc]; exact h3, by rw [Nat.add_assoc]; exact h4, hr2, hp2⟩
    obtain ⟨zs, hz1, hz2, hz3⟩ := ins_of (At := FAt) (sz := 5) (fun h => by obtain ⟨z, ⟨_, v, hz⟩, _⟩ := each 0 h; exact ⟨v, by simpa using hz⟩) (fun i hi => by obtain ⟨z, ⟨h1, _⟩, h2⟩ := each i hi; exact ⟨z, h1, h2⟩)
    exact ⟨zs, hz1, hz2, by omega, hz3⟩
end
end Go.Proofs.Ytebecbidodnneaa
