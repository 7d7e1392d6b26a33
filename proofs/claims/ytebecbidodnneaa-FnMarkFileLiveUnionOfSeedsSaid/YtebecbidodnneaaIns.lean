/-
  Rows of structs in memory, at any element; the files that came in, opened to their cells. No statement of the seat is proved here.
-/
import Derived.Test.YtebecbidodnneaaPl
import Derived.Test.YtebecbidodnneaaDp
namespace Go.Proofs.Ytebecbidodnneaa
open Go.RowKit Go.ChangeShapes Go.WideShapes
set_option linter.unusedVariables false
set_option linter.unusedSimpArgs false

/-- a row of elements of sz cells each -/
def InS {α : Type} [Inhabited α] (w : World) (ao : Option Addr) (zs : List α) (sz : Nat) (At : World → Nat → Nat → α → Prop) : Prop :=
  zs = [] ∨ ∃ b off, ao = some ⟨b, off, none⟩ ∧ b < w.heap.size ∧ ∀ i, i < zs.length → At w b (off + i * sz) (zs.getD i default)
/-- what is kept where the elder blocks are -/
def Kp {α : Type} (At : World → Nat → Nat → α → Prop) : Prop := ∀ (w w' : World) (b o : Nat) (z : α), At w b o z → b < w.heap.size → Below w.heap.size w w' → At w' b o z
section
variable {α : Type} [Inhabited α] {w w' : World} {ao : Option Addr} {zs : List α} {sz : Nat} {At : World → Nat → Nat → α → Prop}
theorem InS.kept (h : InS w ao zs sz At) (hk : Kp At) (hb : Below w.heap.size w w') : InS w' ao zs sz At := by
  rcases h with h | ⟨b, off, h1, h2, h3⟩
  · exact .inl h
  · exact .inr ⟨b, off, h1, Nat.lt_of_lt_of_le h2 hb.size, fun i hi => hk _ _ _ _ _ (h3 i hi) h2 hb⟩
theorem InS.at (h : InS w ao zs sz At) {i : Nat} (hi : i < zs.length) : ∃ b off, ao = some ⟨b, off, none⟩ ∧ b < w.heap.size ∧ At w b (off + i * sz) (zs.getD i default) := by
  rcases h with h | ⟨b, off, h1, h2, h3⟩
  · subst h; simp at hi
  · exact ⟨b, off, h1, h2, h3 i hi⟩
theorem InS.none (h : InS w none zs sz At) : zs = [] := by
  rcases h with h | ⟨b, off, h1, _⟩
  · exact h
  · cases h1
theorem ins_of {Ok : α → Prop} {x : Addr} {len : Nat} (h0 : 0 < len → ∃ v, w.cell? (x.add 0) = some v) (each : ∀ i, i < len → ∃ z : α, Ok z ∧ ∀ b off, (∀ k, x.add k = ⟨b, off + k, none⟩) → At w b (off + i * sz) z) :
    ∃ zs : List α, zs.length = len ∧ InS w (some x) zs sz At ∧ ∀ i, i < zs.length → Ok (zs.getD i default) := by
  obtain ⟨Z, hZ⟩ := Go.Deep.choose_lt each
  have hln : ((List.range len).map Z).length = len := by simp
  have hat : ∀ i, i < len → ((List.range len).map Z).getD i default = Z i := fun i hi => by simp [hi]
  refine ⟨(List.range len).map Z, hln, ?_, fun i hi => ?_⟩
  · by_cases hl : len = 0
    · subst hl; exact .inl (by simp)
    · obtain ⟨v, hv⟩ := h0 (by omega)
      obtain ⟨b, off, rfl, hadd⟩ := plain_addr hv
      rw [hadd] at hv
      refine .inr ⟨b, off, rfl, World.block_lt_of_cell? w _ hv, fun i hi => ?_⟩
      rw [hln] at hi
      rw [hat i hi]
      exact (hZ i hi).2 b off hadd
  · rw [hln] at hi
    rw [hat i hi]
    exact (hZ i hi).1
end
theorem In.none' {k : IntKind} {w : World} {zs : List Int} (h : In k w none zs) : zs = [] := by
  rcases h with h | ⟨b, off, h1, _⟩
  · exact h
  · cases h1
def DAt (w : World) (b o : Nat) (d : Int × Int) : Prop := w.cell? ⟨b, o, none⟩ = some (.int .u32 d.1) ∧ w.cell? ⟨b, o + 1, none⟩ = some (.int .u32 d.2)
def RAt (w : World) (b o : Nat) (r : Rc) : Prop := w.cell? ⟨b, o, none⟩ = some (.int .i32 r.tg) ∧ w.cell? ⟨b, o + 1, none⟩ = some (.int .u8 r.kd) ∧ w.cell? ⟨b, o + 2, none⟩ = some (.bool r.ex)
def PAt (w : World) (b o : Nat) (p : Pt) : Prop := ∃ ra rc da dc, w.cell? ⟨b, o, none⟩ = some (.slice ra p.rz.length rc) ∧ w.cell? ⟨b, o + 1, none⟩ = some (.slice da p.dz.length dc) ∧ w.cell? ⟨b, o + 2, none⟩ = some (.bool p.cb) ∧ w.cell? ⟨b, o + 3, none⟩ = some (.bool p.fb) ∧
  In .u32 w ra p.rz ∧ InS w da p.dz 2 DAt
def FAt (w : World) (b o : Nat) (z : Wf) : Prop := ∃ ra rc pa pc, w.cell? ⟨b, o, none⟩ = some (.int .i32 z.css) ∧ w.cell? ⟨b, o + 1, none⟩ = some (.bool z.se) ∧ w.cell? ⟨b, o + 2, none⟩ = some (.bool z.lv) ∧ w.cell? ⟨b, o + 3, none⟩ = some (.slice ra z.rs.length rc) ∧ w.cell? ⟨b, o + 4, none⟩ = some (.slice pa z.ps.length pc) ∧
  InS w ra z.rs 3 RAt ∧ InS w pa z.ps 4 PAt
theorem cell_k {w w' : World} {b o : Nat} {v : Value} (hl : Below w.heap.size w w') (hb : b < w.heap.size) (h : w.cell? ⟨b, o, none⟩ = some v) : w'.cell? ⟨b, o, none⟩ = some v := (hl.cell (p := ⟨b, o, none⟩) hb).trans h
theorem kAD : Kp DAt := fun w w' b o z h hb hl => ⟨cell_k hl hb h.1, cell_k hl hb h.2⟩
theorem kAR : Kp RAt := fun w w' b o z h hb hl => ⟨cell_k hl hb h.1, cell_k hl hb h.2.1, cell_k hl hb h.2.2⟩
theorem kAP : Kp PAt := fun w w' b o z h hb hl => by
  obtain ⟨ra, rc, da, dc, h1, h2, h3, h4, h5, h6⟩ := h
  exact ⟨ra, rc, da, dc, cell_k hl hb h1, cell_k hl hb h2, cell_k hl hb h3, cell_k hl hb h4, h5.kept hl, h6.kept kAD hl⟩
theorem kAF : Kp FAt := fun w w' b o z h hb hl => by
  obtain ⟨ra, rc, pa, pc, h1, h2, h3, h4, h5, h6, h7⟩ := h
  exact ⟨ra, rc, pa, pc, cell_k hl hb h1, cell_k hl hb h2, cell_k hl hb h3, cell_k hl hb h4, cell_k hl hb h5, h6.kept kAR hl, h7.kept kAP hl⟩
/-- the numbers are of their kinds -/
def OkD (d : Int × Int) : Prop := (0 ≤ d.1 ∧ d.1 < 4294967296) ∧ 0 ≤ d.2 ∧ d.2 < 4294967296
def OkR (r : Rc) : Prop := (-2147483648 ≤ r.tg ∧ r.tg < 2147483648) ∧ 0 ≤ r.kd ∧ r.kd < 256
structure OkP (p : Pt) : Prop where
  rl : p.rz.length ≤ maxLen
  rz : ∀ k, k < p.rz.length → 0 ≤ nth p.rz k ∧ nth p.rz k < 4294967296
  dl : p.dz.length ≤ maxLen
  dz : ∀ k, k < p.dz.length → OkD (dp p.dz k)
structure OkF (z : Wf) : Prop where
  css : -2147483648 ≤ z.css ∧ z.css < 2147483648
  rl : z.rs.length ≤ maxLen
  rs : ∀ k, k < z.rs.length → OkR (rc z.rs k)
  pl : z.ps.length ≤ maxLen
  ps : ∀ k, k < z.ps.length → OkP (pt z.ps k)
theorem wf_u8 {n : Int} (h : (Lit.int .u8 n).wf = true) : 0 ≤ n ∧ n < 256 := by simp [Lit.wf, IntKind.min, IntKind.max, IntKind.bits, IntKind.signed] at h; omega
theorem wf_i32 {n : Int} (h : (Lit.int .i32 n).wf = true) : -2147483648 ≤ n ∧ n < 2147483648 := by simp [Lit.wf, IntKind.min, IntKind.max, IntKind.bits, IntKind.signed] at h; omega
theorem wf_u32 {n : Int} (h : (Lit.int .u32 n).wf = true) : 0 ≤ n ∧ n < 4294967296 := by simp [Lit.wf, IntKind.min, IntKind.max, IntKind.bits, IntKind.signed] at h; omega
end Go.Proofs.Ytebecbidodnneaa
