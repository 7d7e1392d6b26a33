/-
  The files that came in; the law's bounds. No statement of the seat is proved here.
-/
import Derived.Test.YtlfkdmncdafkiaaDf
namespace Go.Proofs.Ytlfkdmncdafkiaa
open Go.RowKit Go.ChangeShapes Go.WideShapes
set_option linter.unusedVariables false
set_option linter.unusedSimpArgs false

/-- the four cells of a file, at offset o of block b -/
structure FAt (w : World) (b o : Nat) (z : Wf) : Prop where
  c0 : w.cell? ⟨b, o, none⟩ = some (.int .u8 z.ek)
  c1 : w.cell? ⟨b, o + 1, none⟩ = some (.int .u8 z.wr)
  c2 : w.cell? ⟨b, o + 2, none⟩ = some (.bool z.dw)
  c3 : w.cell? ⟨b, o + 3, none⟩ = some (.slice z.ia z.iz.length z.ic)
  im : In .i32 w z.ia z.iz
theorem FAt.kept {w w' : World} {b o : Nat} {z : Wf} (h : FAt w b o z) (hb : b < w.heap.size) (hl : Below w.heap.size w w') : FAt w' b o z :=
  ⟨(hl.cell (p := ⟨b, o, none⟩) hb).trans h.c0, (hl.cell (p := ⟨b, o + 1, none⟩) hb).trans h.c1, (hl.cell (p := ⟨b, o + 2, none⟩) hb).trans h.c2, (hl.cell (p := ⟨b, o + 3, none⟩) hb).trans h.c3, h.im.kept hl⟩
/-- a slice of files -/
def Fz (w : World) (ao : Option Addr) (fs : List Wf) : Prop :=
  fs = [] ∨ ∃ b off, ao = some ⟨b, off, none⟩ ∧ b < w.heap.size ∧ ∀ i, i < fs.length → FAt w b (off + i * 4) (wf fs i)
theorem Fz.kept {w w' : World} {ao : Option Addr} {fs : List Wf} (h : Fz w ao fs) (hb : Below w.heap.size w w') : Fz w' ao fs := by
  rcases h with h | ⟨b, off, h1, h2, h3⟩
  · exact .inl h
  · exact .inr ⟨b, off, h1, Nat.lt_of_lt_of_le h2 hb.size, fun i hi => (h3 i hi).kept h2 hb⟩
theorem Fz.at {w : World} {ao : Option Addr} {fs : List Wf} (h : Fz w ao fs) {i : Nat} (hi : i < fs.length) : ∃ b off, ao = some ⟨b, off, none⟩ ∧ b < w.heap.size ∧ FAt w b (off + i * 4) (wf fs i) := by
  rcases h with h | ⟨b, off, h1, h2, h3⟩
  · subst h; simp at hi
  · exact ⟨b, off, h1, h2, h3 i hi⟩
/-- what each file's numbers are -/
structure Okz (z : Wf) : Prop where
  ek : 0 ≤ z.ek ∧ z.ek < 256
  wr : 0 ≤ z.wr ∧ z.wr < 256
  len : z.iz.length ≤ maxLen
  im : ∀ j, j < z.iz.length → -2147483648 ≤ nth z.iz j ∧ nth z.iz j < 2147483648
/-- what the walk is told of the files -/
def IsW (w : World) (a : Option Addr) (len cap : Nat) (fs : List Wf) : Prop := fs.length = len ∧ Fz w a fs ∧ len ≤ maxLen ∧ ∀ i, i < fs.length → Okz (wf fs i)
theorem cells85 : Try.prog.cellsOf 85 = 4 := by kernel_rfl
theorem c5 : Try.prog.cellsOf 5 = 1 := by kernel_rfl
theorem c4 : Try.prog.cellsOf 4 = 1 := by kernel_rfl
theorem c83 : Try.prog.cellsOf 83 = 1 := by kernel_rfl
theorem c21 : Try.prog.cellsOf 21 = 1 := by kernel_rfl
theorem wf_u8 {n : Int} (h : (Lit.int .u8 n).wf = true) : 0 ≤ n ∧ n < 256 := by simp [Lit.wf, IntKind.min, IntKind.max, IntKind.bits, IntKind.signed] at h; omega
theorem wf_i32 {n : Int} (h : (Lit.int .i32 n).wf = true) : -2147483648 ≤ n ∧ n < 2147483648 := by simp [Lit.wf, IntKind.min, IntKind.max, IntKind.bits, IntKind.signed] at h; omega
set_option maxRecDepth 100000 in
theorem open_w {H : Type} {enc : TypeId × Value → H} {w : World} {base : Nat} {spare : Nat → Bool} {held : Bool} {fuel : Nat} {a : Option Addr} {len cap : Nat} {x : DataW H × List MemPlace} (h : DataW.trod enc Try.prog w base spare held fuel 22 [.slice a len cap] = some x) :
    ∃ fs : List Wf, IsW w a len cap fs := by
  rcases open_elems Try.underlying22 Try.underlying85 cells85 h with hcs | ⟨x, l, c, hcs, hl, hm, hel⟩
  · simp at hcs
    obtain ⟨rfl, rfl, rfl⟩ := hcs
    exact ⟨[], rfl, .inl rfl, by simp, fun i hi => by simp at hi⟩
  · simp at hcs
    obtain ⟨rfl, rfl, rfl⟩ := hcs
    have each : ∀ i, i < len → ∃ z : Wf, w.cell? (x.add (i * 4)) = some (.int .u8 z.ek) ∧ w.cell? (x.add (i * 4 + 1)) = some (.int .u8 z.wr) ∧ w.cell? (x.add (i * 4 + 2)) = some (.bool z.dw) ∧ w.cell? (x.add (i * 4 + 3)) = some (.slice z.ia z.iz.length z.ic) ∧ In .i32 w z.ia z.iz ∧ Okz z := fun i hi => by
      obtain ⟨v0, y0, n0, h0, g0⟩ := hel i hi 0 _ rfl c5 (by decide)
      obtain ⟨v1, y1, n1, h1, g1⟩ := hel i hi 1 _ rfl c5 (by decide)
      obtain ⟨v2, y2, n2, h2, g2⟩ := hel i hi 2 _ rfl c4 (by decide)
      obtain ⟨v3, y3, n3, h3, g3⟩ := hel i hi 3 _ rfl c83 (by decide)
      obtain ⟨a0, e0, _, q0⟩ := DataW.trod_int Try.underlying5 g0
      obtain ⟨a1, e1, _, q1⟩ := DataW.trod_int Try.underlying5 g1
      obtain ⟨a2, e2, _⟩ := DataW.trod_bool Try.underlying4 g2
      obtain ⟨ia, il, ic, iz, rfl, hz1, hz2, hz3, hz4⟩ := open_row Try.underlying83 Try.underlying21 c21 g3
      simp only [List.cons.injEq, and_true] at e0 e1 e2
      subst e0 e1 e2 hz1
      refine ⟨⟨a0, a1, a2, ia, ic, iz⟩, h0, h1, h2, h3, hz2, ⟨wf_u8 q0, wf_u8 q1, hz3, fun j hj => wf_i32 (hz4 _ (nth_mem iz j hj))⟩⟩
    obtain ⟨Z, hZ⟩ := Go.Deep.choose_lt each
    have hln : ((List.range len).map Z).length = len := by simp
    have hat : ∀ i, i < len → wf ((List.range len).map Z) i = Z i := fun i hi => by unfold wf; simp [hi]
    refine ⟨(List.range len).map Z, hln, ?_, by omega, fun i hi => ?_⟩
    · by_cases h0 : len = 0
      · subst h0; exact .inl (by simp)
      · have hc := (hZ 0 (by omega)).1
        rw [Nat.zero_mul] at hc
        obtain ⟨b, off, rfl, hadd⟩ := plain_addr hc
        rw [hadd] at hc
        refine .inr ⟨b, off, rfl, World.block_lt_of_cell? w _ hc, fun i hi => ?_⟩
        rw [hln] at hi
        obtain ⟨h0, h1, h2, h3, h4, _⟩ := hZ i hi
        rw [hadd] at h0 h1 h2 h3
        rw [hat i hi]
        exact ⟨h0, by rw [Nat.add_assoc]; exact h1, by rw [Nat.add_assoc]; exact h2, by rw [Nat.add_assoc]; exact h3, h4⟩
    · rw [hln] at hi
      rw [hat i hi]
      exact (hZ i hi).2.2.2.2.2
def ZbB (fs : List Wf) (e : Ending) : Prop := ∃ b : Bool, e = .returned (.bool b) ∧ (b = true → ∀ v, v < fs.length → (wf fs v).iz.length ≤ 1048576)
set_option maxHeartbeats 1000000 in
set_option maxRecDepth 100000 in
theorem zb_any (ao : Option Addr) (n cap : Nat) (fs : List Wf) (hn : fs.length = n) (a b : Int) (hok : ∀ i, i < fs.length → Okz (wf fs i)) (w : World) (hin : Fz w ao fs) :
    Calls Try.prog 4 #[.slice ao n cap, .int .u32 a, .int .u32 b] w fun e w' => ZbB fs e ∧ w' = w := by
  by_cases h0 : (n : Int) > 1048576
  · go_enter Try.func4, Try.ntmps4
    go_wp2_with fail
    go_ret
    exact ⟨⟨false, rfl, by simp⟩, rfl⟩
  · have h1 : decide ((1048576 : Int) < (n : Int)) = false := by simp; omega
    have HN := Lib.hid hn
    clear hok
    go_enter Try.func4, Try.ntmps4
    go_wp2_with fail
    go_loopg [7, 8] n (fun k x y wr => ∃ (q : Int) (i : Nat), x = .int .i64 q ∧ y = .int .i64 (i : Int) ∧ i ≤ n ∧ n - i ≤ k ∧ wr = w ∧ Hid (∀ v, v < i → (wf fs v).iz.length ≤ 1048576))
    case atStart => exact ⟨_, 0, rfl, rfl, by omega, by omega, rfl, Lib.hid (fun v hv => by omega)⟩
    case round =>
      obtain ⟨q, i, rfl, rfl, hi, hk, rfl, HB⟩ := hrel
      rcases (show n = i ∨ i < n by omega) with he | hlt
      · obtain rfl := he
        go_wp2_with fail
        go_ret
        exact ⟨⟨true, rfl, fun _ v hv => HB.out v (by rw [HN.out] at hv; exact hv)⟩, rfl⟩
      · obtain ⟨b', off, rfl, _, hc⟩ := hin.at (i := i) (by rw [HN.out]; exact hlt)
        have c3 := hc.c3
        obtain ⟨m, hm⟩ : ∃ m, (wf fs i).iz.length = m := ⟨_, rfl⟩
        rw [hm] at c3
        have HM := Lib.hid hm
        clear hc hm
        by_cases h2 : (m : Int) > 1048576
        · have h3 : decide ((1048576 : Int) < (m : Int)) = true := by simp; omega
          go_wp2_with fail
          go_ret
          exact ⟨⟨false, rfl, by simp⟩, rfl⟩
        · have h3 : decide ((1048576 : Int) < (m : Int)) = false := by simp; omega
          obtain ⟨y, hy⟩ : ∃ y, IntKind.i64.wrap (q + (m : Int)) = y := ⟨_, rfl⟩
          by_cases h4 : y > 1048576
          · have h5 : decide ((1048576 : Int) < y) = true := by simp; omega
            go_wp2_with fail
            go_ret
            exact ⟨⟨false, rfl, by simp⟩, rfl⟩
          · have h5 : decide ((1048576 : Int) < y) = false := by simp; omega
            go_wp2_with fail
            go_roundg (n - (i + 1))
            case measure => omega
            case rel =>
              refine ⟨y, i + 1, rfl, by go_num, hlt, Nat.le_refl _, rfl, Lib.hid (fun v hv => ?_)⟩
              rcases (show v < i ∨ v = i by omega) with h | rfl
              · exact HB.out v h
              · rw [HM.out]; omega
end Go.Proofs.Ytlfkdmncdafkiaa
