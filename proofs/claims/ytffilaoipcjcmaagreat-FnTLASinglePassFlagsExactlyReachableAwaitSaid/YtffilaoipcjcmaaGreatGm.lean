/-
  The import graph of the law as lists: who is present, a file's edges, its neighbours. Plain law. No statement of the seat is proved here.
-/
import Derived.Test.YtffilaoipcjcmaaGreatTl
import Derived.Test.YtffilaoipcjcmaaGreatWl
import Derived.Test.YtffilaoipcjcmaaGreatInts
namespace Go.Proofs.YtffilaoipcjcmaaGreat

structure Gx where
  ts : List Bool
  gs : List Bool
  sr : List Int
  ds : List Int
  kd : List Int
def prs (g : Gx) (v : Nat) : Bool := !(g.gs.getD v false)
def tlv (g : Gx) (v : Nat) : Bool := g.ts.getD v false
def mE (g : Gx) : Nat := min (min g.sr.length g.ds.length) g.kd.length
/-- the edges of v among the first m -/
def esv (g : Gx) (v m : Nat) : List Nat := (List.range m).filter (fun e => decide (nth g.sr e = (v : Int)))
/-- does the walk follow edge e? -/
def gd (g : Gx) (e : Nat) : Bool := !(nth g.kd e % 3 == 2) && (decide (nth g.ds e < (g.ts.length : Int)) && prs g (nth g.ds e).toNat)
def csf (g : Gx) (es : List Nat) : List Nat := (es.filter (gd g)).map (fun e => (nth g.ds e).toNat)
def EE (g : Gx) (a c : Nat) : Prop := c ∈ csf g (esv g a (mE g))
def Z0 (_ : Nat) : Prop := False
/-- the flipped index of edge e -/
def flx (g : Gx) (e : Nat) : Int := if nth g.ds e < (g.ts.length : Int) then 4294967295 - nth g.ds e else 0
def kdv (g : Gx) (e : Nat) : Int := if nth g.kd e % 3 = 0 then 1 else if nth g.kd e % 3 = 1 then 2 else 3
def tlen (g : Gx) (v : Nat) : Int := if tlv g v = true then 5 else 0
structure OkG (g : Gx) : Prop where
  n4 : g.ts.length ≤ 4096
  m4 : mE g ≤ 4096
  d : ∀ e, e < mE g → 0 ≤ nth g.ds e ∧ nth g.ds e < 65536
  s : ∀ e, e < mE g → 0 ≤ nth g.sr e ∧ nth g.sr e < 65536
  k : ∀ e, e < mE g → 0 ≤ nth g.kd e ∧ nth g.kd e < 256
theorem esv_snoc (g : Gx) (v m : Nat) : esv g v (m + 1) = if nth g.sr m = (v : Int) then esv g v m ++ [m] else esv g v m := by
  unfold esv
  rw [List.range_succ, List.filter_append]
  by_cases h : nth g.sr m = (v : Int)
  · rw [if_pos h]; simp [h]
  · rw [if_neg h]; simp [h]
theorem esv_lt {g : Gx} {v m e : Nat} (h : e ∈ esv g v m) : e < m ∧ nth g.sr e = (v : Int) := by
  unfold esv at h
  rw [List.mem_filter, List.mem_range] at h
  exact ⟨h.1, by simpa using h.2⟩
theorem esv_len (g : Gx) (v m : Nat) : (esv g v m).length ≤ m := by
  have := List.length_filter_le (fun e => decide (nth g.sr e = (v : Int))) (List.range m)
  rw [List.length_range] at this
  exact this
def eat (es : List Nat) (j : Nat) : Nat := es.getD j 0
theorem eat_get (es : List Nat) (j : Nat) (h : j < es.length) : eat es j = es[j] := by simp [eat, h]
theorem eat_mem (es : List Nat) (j : Nat) (h : j < es.length) : eat es j ∈ es := by rw [eat_get es j h]; exact List.getElem_mem h
theorem csf_snoc (g : Gx) (es : List Nat) (j : Nat) (h : j < es.length) : csf g (es.take (j + 1)) = if gd g (eat es j) = true then csf g (es.take j) ++ [(nth g.ds (eat es j)).toNat] else csf g (es.take j) := by
  unfold csf
  rw [List.take_succ_eq_append_getElem h, List.filter_append, List.map_append, eat_get es j h]
  by_cases h0 : gd g es[j] = true
  · rw [if_pos h0]; simp [h0]
  · rw [if_neg h0]; simp [h0]
theorem EE_iff {g : Gx} (hok : OkG g) {a c : Nat} : EE g a c ↔ ∃ e, e < mE g ∧ nth g.sr e = (a : Int) ∧ ¬ nth g.kd e % 3 = 2 ∧ nth g.ds e = (c : Int) ∧ c < g.ts.length ∧ prs g c = true := by
  unfold EE csf
  rw [List.mem_map]
  constructor
  · rintro ⟨e, h1, rfl⟩
    rw [List.mem_filter] at h1
    obtain ⟨h2, h3⟩ := h1
    obtain ⟨h4, h5⟩ := esv_lt h2
    simp [gd] at h3
    have := hok.d e h4
    exact ⟨e, h4, h5, h3.1, by omega, by omega, h3.2.2⟩
  · rintro ⟨e, h1, h2, h3, h4, h5, h6⟩
    refine ⟨e, ?_, by omega⟩
    rw [List.mem_filter]
    refine ⟨?_, ?_⟩
    · unfold esv; rw [List.mem_filter, List.mem_range]; exact ⟨h1, by simpa using h2⟩
    · unfold gd
      rw [show (nth g.ds e).toNat = c by omega, h6]
      simp [h3]; omega
theorem EE_prs {g : Gx} {a c : Nat} (h : EE g a c) : prs g c = true := by
  unfold EE csf at h
  rw [List.mem_map] at h
  obtain ⟨e, h1, rfl⟩ := h
  rw [List.mem_filter] at h1
  have h2 := h1.2
  simp [gd] at h2
  exact h2.2.2
theorem Rch_prs {g : Gx} {D : Nat → Prop} {a v : Nat} (h : Rch (EE g) Z0 D a v) (ha : prs g a = true) : prs g v = true := by
  induction h with
  | here _ => exact ha
  | step _ _ he _ ih => exact ih (EE_prs he)
/-- what a call on file a leaves of the marks -/
def Mkc (g : Gx) (d : Nat → Bool) (a : Nat) (d' : Nat → Bool) : Prop := (prs g a = true → Mkd (EE g) Z0 d a d') ∧ (prs g a = false → d' = d)
theorem Mks_go {g : Gx} {d1 d' d2 : Nat → Bool} {es : List Nat} {j c : Nat} (hj : j < es.length) (hk : ¬ nth g.kd (eat es j) % 3 = 2) (hc : nth g.ds (eat es j) = (c : Int)) (hcn : c < g.ts.length)
    (h : Mks (EE g) Z0 d1 (csf g (es.take j)) d') (h2 : Mkc g d' c d2) : Mks (EE g) Z0 d1 (csf g (es.take (j + 1))) d2 := by
  rw [csf_snoc g es j hj]
  have hg : gd g (eat es j) = prs g c := by
    unfold gd
    have h1 : decide ((c : Int) < (g.ts.length : Int)) = true := by simp; omega
    have h2 : (nth g.kd (eat es j) % 3 == 2) = false := by simp [hk]
    rw [hc, Int.toNat_natCast, h1, h2]
    simp
  rw [hg]
  cases hp : prs g c with
  | true =>
    rw [if_pos rfl, hc, Int.toNat_natCast]
    exact h.snoc (h2.1 hp)
  | false =>
    rw [if_neg (by simp), h2.2 hp]
    exact h
theorem Mks_no {g : Gx} {d1 d' : Nat → Bool} {es : List Nat} {j : Nat} (hj : j < es.length) (hk : nth g.kd (eat es j) % 3 = 2 ∨ ¬ nth g.ds (eat es j) < (g.ts.length : Int))
    (h : Mks (EE g) Z0 d1 (csf g (es.take j)) d') : Mks (EE g) Z0 d1 (csf g (es.take (j + 1))) d' := by
  rw [csf_snoc g es j hj]
  have hg : gd g (eat es j) = false := by
    unfold gd
    rcases hk with hk | hk
    · simp [hk]
    · rw [decide_eq_false hk]; simp
  rw [hg, if_neg (by simp)]
  exact h
theorem Mks_mono {g : Gx} {d1 d' : Nat → Bool} {cs : List Nat} (h : Mks (EE g) Z0 d1 cs d') (v : Nat) (hv : d1 v = true) : d' v = true := (h v).2 (.inl hv)
end Go.Proofs.YtffilaoipcjcmaaGreat
