/-
  What the accumulation computes, in plain numbers: counts, marks, listed symbols, and that the order of the symbols does not matter. No statement of the seat is proved here.
-/
import Derived.Test.YtmpfgkiljfoicaaDoorBase
namespace Go.Proofs.YtmpfgkiljfoicaaDoor
set_option linter.unusedVariables false

structure Pm where
  n : Nat
  c : Nat
  kd : Nat → Int
  fg : Nat → Int
  nx : Nat → Int
  us : Nat → Int
  root : Nat → Nat
  rk : Nat → Nat
  st : Int
structure Pm.Ok (m : Pm) : Prop where
  hn : m.n ≤ 4096
  hc : m.c ≤ 4096
  kd : ∀ i, i < m.n → m.kd i = 27 ∨ m.kd i = 18 ∨ m.kd i = 0
  fg : ∀ i, i < m.n → m.fg i = 0 ∨ m.fg i = 1 ∨ m.fg i = 2 ∨ m.fg i = 3
  nx : ∀ i, i < m.n → m.nx i = 0 ∨ ∃ j : Nat, j < m.c ∧ m.nx i = 4294967295 - (j : Int)
  rt : ∀ j, j < m.n → m.root j < m.n ∧ m.rk (m.root j) ≤ m.rk j ∧ m.root (m.root j) = m.root j
  st : 0 ≤ m.st ∧ m.st < 4294967296
def Pm.ns (m : Pm) (r : Nat) : Int := if m.kd r = 0 ∨ m.fg r % 2 = 1 then 4 else if m.kd r = 18 then 1 else 0
def Pm.hit (m : Pm) (a : Int) (j i : Nat) : Bool := m.ns (m.root i) == a && m.nx (m.root i) == 4294967295 - (j : Int)
def Pm.cap (m : Pm) (a : Int) (j i : Nat) : Bool := m.hit a j i && m.fg (m.root i) / 2 == 1
def Pm.lst (m : Pm) (i : Nat) : Bool := !(m.ns (m.root i) == 4) && m.nx (m.root i) == 0
def sumU (p : Nat → Bool) (us : Nat → Int) : List Nat → Int | [] => 0 | i :: L => (if p i = true then us i else 0) + sumU p us L
theorem sumU_snoc (p : Nat → Bool) (us : Nat → Int) (t : Nat) : ∀ L, sumU p us (L ++ [t]) = sumU p us L + (if p t = true then us t else 0)
  | [] => by simp [sumU]
  | i :: L => by simp only [List.cons_append, sumU, sumU_snoc p us t L]; omega
theorem sumU_perm (p : Nat → Bool) (us : Nat → Int) {L L' : List Nat} (h : L.Perm L') : sumU p us L = sumU p us L' := by
  induction h with
  | nil => rfl
  | cons x _ ih => simp only [sumU, ih]
  | swap x y l => simp only [sumU]; omega
  | trans _ _ ih1 ih2 => rw [ih1, ih2]
def Pm.cF (m : Pm) (a : Int) (j : Nat) (L : List Nat) : Int := sumU (m.hit a j) m.us L % 4294967296
def Pm.fF (m : Pm) (a : Int) (j : Nat) (L : List Nat) : Int := if L.any (m.cap a j) = true then 1 else 0
def Pm.es (m : Pm) (L : List Nat) : List Nat := L.filter m.lst
def Pm.row (m : Pm) (i : Nat) : List Value := [.int .u32 m.st, .int .u32 0, .int .u32 (m.root i : Int), .int .u32 (m.us i)]
def Pm.fl (m : Pm) (L : List Nat) : List Value := (m.es L).flatMap m.row
theorem Pm.cF_hit (m : Pm) {a : Int} {j t : Nat} {L : List Nat} (h : m.hit a j t = true) : m.cF a j (L ++ [t]) = (m.cF a j L + m.us t) % 4294967296 := by
  unfold Pm.cF
  rw [sumU_snoc, if_pos h]
  omega
theorem Pm.cF_miss (m : Pm) {a : Int} {j t : Nat} {L : List Nat} (h : m.hit a j t = false) : m.cF a j (L ++ [t]) = m.cF a j L := by
  unfold Pm.cF
  rw [sumU_snoc, if_neg (by simp [h]), Int.add_zero]
theorem Pm.fF_cap (m : Pm) {a : Int} {j t : Nat} {L : List Nat} (h : m.cap a j t = true) : m.fF a j (L ++ [t]) = 1 := by
  unfold Pm.fF
  simp [h]
theorem Pm.fF_miss (m : Pm) {a : Int} {j t : Nat} {L : List Nat} (h : m.cap a j t = false) : m.fF a j (L ++ [t]) = m.fF a j L := by
  unfold Pm.fF
  simp [h]
theorem Pm.cap_miss (m : Pm) {a : Int} {j t : Nat} (h : m.hit a j t = false) : m.cap a j t = false := by simp [Pm.cap, h]
theorem Pm.hit_one (m : Pm) {a a' : Int} {j j' t : Nat} (h : m.hit a j t = true) (hne : ¬ (a' = a ∧ j' = j)) : m.hit a' j' t = false := by
  cases hb : m.hit a' j' t
  · rfl
  · exfalso
    unfold Pm.hit at h hb
    simp at h hb
    omega
theorem Pm.cF_perm (m : Pm) (a : Int) (j : Nat) {L L' : List Nat} (h : L.Perm L') : m.cF a j L = m.cF a j L' := by
  unfold Pm.cF
  rw [sumU_perm _ _ h]
theorem Pm.fF_perm (m : Pm) (a : Int) (j : Nat) {L L' : List Nat} (h : L.Perm L') : m.fF a j L = m.fF a j L' := by
  unfold Pm.fF
  have e : L.any (m.cap a j) = L'.any (m.cap a j) := by
    rw [Bool.eq_iff_iff, List.any_eq_true, List.any_eq_true]
    constructor
    · rintro ⟨x, hx, hc⟩; exact ⟨x, h.mem_iff.1 hx, hc⟩
    · rintro ⟨x, hx, hc⟩; exact ⟨x, h.mem_iff.2 hx, hc⟩
  rw [e]
theorem Pm.es_perm (m : Pm) {L L' : List Nat} (h : L.Perm L') : (m.es L).Perm (m.es L') := h.filter _
theorem Pm.es_snoc (m : Pm) (L : List Nat) (t : Nat) : m.es (L ++ [t]) = if m.lst t = true then m.es L ++ [t] else m.es L := by
  unfold Pm.es
  rw [List.filter_append]
  by_cases h : m.lst t = true
  · simp [h]
  · simp [h]
theorem Pm.fl_snoc (m : Pm) (L : List Nat) (t : Nat) : m.fl (L ++ [t]) = if m.lst t = true then m.fl L ++ m.row t else m.fl L := by
  unfold Pm.fl
  rw [m.es_snoc]
  by_cases h : m.lst t = true
  · simp [h]
  · simp [h]
theorem Pm.es_len (m : Pm) (L : List Nat) : (m.es L).length ≤ L.length := List.length_filter_le _ _
theorem Pm.fl_len (m : Pm) (L : List Nat) : (m.fl L).length = (m.es L).length * 4 := by
  unfold Pm.fl
  induction m.es L with
  | nil => rfl
  | cons x l ih => simp only [List.flatMap_cons, List.length_append, ih, List.length_cons, Pm.row, List.length_nil]; omega
end Go.Proofs.YtmpfgkiljfoicaaDoor
