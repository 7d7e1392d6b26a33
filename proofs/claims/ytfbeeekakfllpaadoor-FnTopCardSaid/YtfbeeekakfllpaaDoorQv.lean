/-
  The joint plain state: bounds, names, one mapping. No program in sight. No statement of the seat is proved here.
-/
import Derived.Test.YtfbeeekakfllpaaDoorPq
namespace Go.Proofs.YtfbeeekakfllpaaDoor
open Go.RowKit
set_option linter.unusedVariables false
/-- what a reader's sums keep to -/
structure Rbd (r : Rdr) : Prop where
  c0 : 0 ≤ r.col
  c1 : r.col ≤ 16777216
  l0 : 0 ≤ r.ol
  l1 : r.ol ≤ 16777216
  o0 : 0 ≤ r.oc
  o1 : r.oc ≤ 16777216
  n0 : 0 ≤ r.on
  n1 : r.on ≤ 16777216
/-- a token that a reader takes well -/
def OkT : Tk → Prop
  | .nl => True
  | .seg ds => (ds.length = 4 ∨ ds.length = 5) ∧ d0 ds 1 = 0 ∧ ∀ z ∈ ds, Bnd z
def Bt : Rdr → List Tk → Prop
  | r, [] => Rbd r
  | r, x :: t => Rbd r ∧ OkT x ∧ Bt (r.tok x) t
theorem bt_snoc : ∀ (l : List Tk) (r : Rdr) (x : Tk), Bt r l → OkT x → Rbd ((l.foldl Rdr.tok r).tok x) → Bt r (l ++ [x])
  | [], r, x, h, hx, hb => ⟨h, hx, hb⟩
  | y :: t, r, x, h, hx, hb => ⟨h.1, h.2.1, bt_snoc t (r.tok y) x h.2.2 hx hb⟩
theorem Bt.here {r : Rdr} {l : List Tk} (h : Bt r l) : Rbd r := by
  cases l with
  | nil => exact h
  | cons x t => exact h.1
theorem bt_wk : ∀ (l : List Tk) (r : Rdr), Bt r l → Wk l
  | [], _, _ => trivial
  | .nl :: t, r, h => bt_wk t _ h.2.2
  | .seg ds :: t, r, h => ⟨h.2.1.1, bt_wk t _ h.2.2⟩
/-- the state's bounds: u bytes printed, m mappings -/
structure Qb (q : Pq) (u m : Nat) : Prop where
  ok : Qok q
  bt : Bt rd0 q.toks
  gc0 : 0 ≤ q.gc
  gc1 : q.gc ≤ 2 * u
  gcol0 : 0 ≤ q.gcol
  gcol1 : q.gcol ≤ 2 * u
  gl0 : 0 ≤ q.gl
  gl1 : q.gl ≤ u
  len : q.toks.length ≤ 2 * u + 2 * m
  rows : q.rows.length ≤ u
  cur : q.cur.length ≤ q.toks.length
  sg : sgs q.toks ≤ q.toks.length
  ol0 : 0 ≤ q.ol
  ol1 : q.ol ≤ 4194304
  oc0 : 0 ≤ q.oc
  oc1 : q.oc ≤ 4194304
  on0 : 0 ≤ q.on
  on1 : q.on ≤ 1048576
theorem sgs_le : ∀ l : List Tk, sgs l ≤ l.length
  | [] => Nat.le_refl _
  | .nl :: t => by have := sgs_le t; simp [sgs]; omega
  | .seg _ :: t => by have := sgs_le t; simp [sgs]; omega
def pq0 : Pq := ⟨[], [], [], 0, 0, 0, 0, 0, false, 0, false, false⟩
theorem Qb.zero : Qb pq0 0 0 := ⟨⟨trivial, rfl⟩, ⟨by decide, by decide, by decide, by decide, by decide, by decide, by decide, by decide⟩, by decide, by decide, by decide, by decide, by decide, by decide, by decide, by decide, by decide, by decide, by decide, by decide, by decide, by decide, by decide, by decide⟩
theorem Qb.mono {q : Pq} {u u' m m' : Nat} (h : Qb q u m) (hu : u ≤ u') (hm : m ≤ m') : Qb q u' m' :=
  ⟨h.ok, h.bt, h.gc0, by have := h.gc1; omega, h.gcol0, by have := h.gcol1; omega, h.gl0, by have := h.gl1; omega, by have := h.len; omega, by have := h.rows; omega, h.cur, h.sg, h.ol0, h.ol1, h.oc0, h.oc1, h.on0, h.on1⟩
theorem ds_len (q : Pq) (gc ol oc : Int) (nm : Option Nat) : (q.ds gc ol oc nm).length = if nm.isSome then 5 else 4 := by unfold Pq.ds; cases nm <;> rfl
/-- a mapping is added: the token count grows by one -/
theorem Qb.app' {q : Pq} {u m : Nat} (h : Qb q u m) (hu : u ≤ 4194304) (gc ol oc : Int) (nm : Option Nat) (g0 : 0 ≤ gc) (g1 : gc ≤ 2 * u) (l0 : 0 ≤ ol) (l1 : ol ≤ 4194304) (o0 : 0 ≤ oc) (o1 : oc ≤ 4194304) (hn : ∀ k, nm = some k → k ≤ 1048576) :
    Qok (q.app gc ol oc nm) ∧ Bt rd0 (q.app gc ol oc nm).toks ∧ (q.app gc ol oc nm).toks.length = q.toks.length + 1 ∧ (q.app gc ol oc nm).cur.length = q.cur.length + 1 ∧ 0 ≤ (q.app gc ol oc nm).on ∧ (q.app gc ol oc nm).on ≤ 1048576 := by
  have hgc0 := h.gc0; have hgc1 := h.gc1; have a1 := h.ol0; have a2 := h.ol1; have a3 := h.oc0; have a4 := h.oc1; have a5 := h.on0; have a6 := h.on1
  refine ⟨h.ok.app _ _ _ _, ?_, by simp [Pq.app], by simp [Pq.app], ?_, ?_⟩
  · have hr := (h.ok.app gc ol oc nm).rd
    refine bt_snoc _ _ _ h.bt ⟨?_, ?_, ?_⟩ ?_
    · rw [ds_len]; cases nm <;> simp
    · simp [Pq.ds, d0]
    · intro z hz
      unfold Pq.ds at hz
      unfold Bnd
      cases nm with
      | none => simp at hz; rcases hz with rfl | rfl | rfl | rfl <;> omega
      | some k =>
        have := hn k rfl
        simp at hz; rcases hz with rfl | rfl | rfl | rfl | rfl <;> omega
    · have e : ((q.toks.foldl Rdr.tok rd0).tok (.seg (q.ds gc ol oc nm))) = rdOf (q.app gc ol oc nm).toks := by
        show _ = rdOf (q.toks ++ _); rw [rdOf_snoc]; rfl
      rw [e, hr]
      refine ⟨g0, by show gc ≤ _; omega, l0, by show ol ≤ _; omega, o0, by show oc ≤ _; omega, ?_, ?_⟩
      · show 0 ≤ (q.app gc ol oc nm).on
        cases nm with
        | none => exact a5
        | some k => exact Int.natCast_nonneg _
      · show (q.app gc ol oc nm).on ≤ _
        cases nm with
        | none => show q.on ≤ _; omega
        | some k => have := hn k rfl; show (k : Int) ≤ _; omega
  · cases nm with
    | none => exact a5
    | some k => exact Int.natCast_nonneg _
  · cases nm with
    | none => exact a6
    | some k => have := hn k rfl; show (k : Int) ≤ _; omega
theorem Qb.app {q : Pq} {u m : Nat} (h : Qb q u m) (hl : q.toks.length + 1 ≤ 2 * u + 2 * m) (hu : u ≤ 4194304) (gc ol oc : Int) (nm : Option Nat) (g0 : 0 ≤ gc) (g1 : gc ≤ 2 * u) (l0 : 0 ≤ ol) (l1 : ol ≤ 4194304) (o0 : 0 ≤ oc) (o1 : oc ≤ 4194304) (hn : ∀ k, nm = some k → k ≤ 1048576) :
    Qb (q.app gc ol oc nm) u m := by
  obtain ⟨a, b, c, d, e, f⟩ := h.app' hu gc ol oc nm g0 g1 l0 l1 o0 o1 hn
  exact ⟨a, b, g0, g1, h.gcol0, h.gcol1, h.gl0, h.gl1, by rw [c]; exact hl, h.rows, by rw [c, d]; have := h.cur; omega, sgs_le _, l0, l1, o0, o1, e, f⟩
theorem Qb.brk {q : Pq} {u m : Nat} (h : Qb q u m) (hu : u ≤ 4194304) (hl : q.toks.length + 1 ≤ 2 * (u + 1) + 2 * m) : Qb q.brk (u + 1) m := by
  have hgl := h.gl1
  have hr := h.rows
  refine ⟨h.ok.brk, ?_, Int.le_refl _, by show (0 : Int) ≤ _; omega, Int.le_refl _, by show (0 : Int) ≤ _; omega, by show 0 ≤ q.gl + 1; have := h.gl0; omega, by show q.gl + 1 ≤ _; omega, by simp [Pq.brk]; omega, by simp [Pq.brk]; exact hr, Nat.zero_le _, sgs_le _, h.ol0, h.ol1, h.oc0, h.oc1, h.on0, h.on1⟩
  refine bt_snoc _ _ _ h.bt trivial ?_
  have e : ((q.toks.foldl Rdr.tok rd0).tok .nl) = rdOf q.brk.toks := by
    show _ = rdOf (q.toks ++ _); rw [rdOf_snoc]; rfl
  rw [e, h.ok.brk.rd]
  have := h.ol0; have := h.ol1; have := h.oc0; have := h.oc1; have := h.on0; have := h.on1
  exact ⟨Int.le_refl _, by show (0 : Int) ≤ _; omega, h.ol0, by show q.ol ≤ _; omega, h.oc0, by show q.oc ≤ _; omega, h.on0, by show q.on ≤ _; omega⟩
theorem Qb.step {q : Pq} {u m : Nat} (h : Qb q u m) (hu : u + 1 ≤ 4194304) (T : ByteArray) (i : Nat) : Qb (stepQ T i q) (u + 1) m := by
  have hlen := h.len
  unfold stepQ
  split
  · unfold Pq.nl Pq.cover
    split
    · have h2 : Qb (q.app 0 q.ol q.oc none) (u + 1) m := (h.mono (Nat.le_succ u) (Nat.le_refl m)).app (by omega) hu 0 q.ol q.oc none (Int.le_refl _) (by omega) h.ol0 h.ol1 h.oc0 h.oc1 (by intro k hk; cases hk)
      have hg : (q.app 0 q.ol q.oc none).brk.gl = q.gl + 1 := rfl
      have hr : (q.app 0 q.ol q.oc none).brk.rows.length = q.rows.length + 1 := by simp [Pq.brk, Pq.app]
      have h3 := h2.brk hu (by simp [Pq.app]; omega)
      exact ⟨h3.ok, h3.bt, h3.gc0, by show (0 : Int) ≤ _; omega, h3.gcol0, by show (0 : Int) ≤ _; omega, h3.gl0, by rw [hg]; have := h.gl1; omega, by simp [Pq.brk, Pq.app]; omega, by rw [hr]; have := h.rows; omega, h3.cur, h3.sg, h3.ol0, h3.ol1, h3.oc0, h3.oc1, h3.on0, h3.on1⟩
    · exact h.brk (by omega) (by omega)
  · split
    · exact h.mono (Nat.le_succ u) (Nat.le_refl m)
    · have := un_pos T i
      have h2 := h.mono (Nat.le_succ u) (Nat.le_refl m)
      exact ⟨h2.ok.gcol _, h2.bt, h2.gc0, h2.gc1, by show 0 ≤ q.gcol + _; have := h.gcol0; omega, by show q.gcol + _ ≤ _; have := h.gcol1; omega, h2.gl0, h2.gl1, h2.len, h2.rows, h2.cur, h2.sg, h2.ol0, h2.ol1, h2.oc0, h2.oc1, h2.on0, h2.on1⟩
theorem Qb.run {q : Pq} {u m : Nat} (h : Qb q u m) (T : ByteArray) : ∀ i, u + i ≤ 4194304 → Qb (runQ T q i) (u + i) m
  | 0, _ => h
  | i + 1, hu => by
    have k := Qb.run h T i (by omega)
    rw [runQ]
    split
    · exact k.step hu T i
    · exact k.mono (by omega) (Nat.le_refl m)
/-- the line at hand is covered ahead of a mapping that is not at its start -/
def Pq.cov2 (q : Pq) : Pq := if !q.ls && (decide (0 < q.gcol) && q.hp) then q.app 0 q.ol q.oc none else q
/-- a mapping, at the columns reached -/
def Pq.mapq (q : Pq) (ol oc : Int) (nm : Option Nat) : Pq := { q.cov2.app q.gcol ol oc nm with ls := true }
theorem Qb.ls {q : Pq} {u m : Nat} (h : Qb q u m) (b : Bool) : Qb { q with ls := b } u m := ⟨⟨h.ok.wk, h.ok.rd⟩, h.bt, h.gc0, h.gc1, h.gcol0, h.gcol1, h.gl0, h.gl1, h.len, h.rows, h.cur, h.sg, h.ol0, h.ol1, h.oc0, h.oc1, h.on0, h.on1⟩
theorem Qb.cov2 {q : Pq} {u m : Nat} (h : Qb q u m) (hu : u ≤ 4194304) : Qb q.cov2 u (m + 1) ∧ q.cov2.toks.length + 1 ≤ 2 * u + 2 * (m + 1) ∧ q.cov2.gcol = q.gcol := by
  have hlen := h.len
  unfold Pq.cov2
  split
  · refine ⟨(h.mono (Nat.le_refl u) (Nat.le_succ m)).app (by omega) hu 0 q.ol q.oc none (Int.le_refl _) (by omega) h.ol0 h.ol1 h.oc0 h.oc1 (by intro k hk; cases hk), by simp [Pq.app]; omega, rfl⟩
  · exact ⟨h.mono (Nat.le_refl u) (Nat.le_succ m), by omega, rfl⟩
theorem Qb.mapq {q : Pq} {u m : Nat} (h : Qb q u m) (hu : u ≤ 4194304) (ol oc : Int) (nm : Option Nat) (l0 : 0 ≤ ol) (l1 : ol ≤ 4194304) (o0 : 0 ≤ oc) (o1 : oc ≤ 4194304) (hn : ∀ k, nm = some k → k ≤ 1048576) : Qb (q.mapq ol oc nm) u (m + 1) := by
  obtain ⟨h1, h2, h3⟩ := h.cov2 hu
  exact (h1.app h2 hu q.gcol ol oc nm h.gcol0 h.gcol1 l0 l1 o0 o1 hn).ls true
/-- the name s among ns: its index, the names after -/
inductive Nmd (ns : List ByteArray) (s : ByteArray) : List ByteArray → Option Nat → Prop where
  | no : s.size = 0 → Nmd ns s ns none
  | old (k : Nat) : s.size ≠ 0 → ns[k]? = some s → Nmd ns s ns (some k)
  | new : s.size ≠ 0 → s ∉ ns → Nmd ns s (ns ++ [s]) (some ns.length)
theorem nmd_any (ns : List ByteArray) (s : ByteArray) : ∃ ns' nm, Nmd ns s ns' nm := by
  by_cases h0 : s.size = 0
  · exact ⟨_, _, .no h0⟩
  · by_cases h1 : s ∈ ns
    · obtain ⟨k, hk, e⟩ := List.getElem_of_mem h1
      exact ⟨_, _, .old k h0 (List.getElem?_eq_some_iff.2 ⟨hk, e⟩)⟩
    · exact ⟨_, _, .new h0 h1⟩
theorem nodup_at {ns : List ByteArray} (h : ns.Nodup) {i j : Nat} {t : ByteArray} (hi : ns[i]? = some t) (hj : ns[j]? = some t) : i = j := by
  obtain ⟨a1, a2⟩ := List.getElem?_eq_some_iff.1 hi
  obtain ⟨b1, b2⟩ := List.getElem?_eq_some_iff.1 hj
  have q := List.pairwise_iff_getElem.1 h
  rcases Nat.lt_trichotomy i j with h1 | h1 | h1
  · exact absurd (a2.trans b2.symm) (q i j a1 b1 h1)
  · exact h1
  · exact absurd (b2.trans a2.symm) (q j i b1 a1 h1)
structure Nok (ns : List ByteArray) (m : Nat) : Prop where
  nd : ns.Nodup
  le : ns.length ≤ m
  ne : ∀ s ∈ ns, s.size ≠ 0
theorem Nmd.ok {ns ns' : List ByteArray} {s : ByteArray} {nm : Option Nat} {m : Nat} (h : Nmd ns s ns' nm) (k : Nok ns m) : Nok ns' (m + 1) ∧ (∀ j, nm = some j → j ≤ m) ∧ ∀ x ∈ ns', x ∈ ns ∨ x = s := by
  have := k.le
  cases h with
  | no h0 => exact ⟨⟨k.nd, by omega, k.ne⟩, by simp, fun x hx => .inl hx⟩
  | old j h0 h1 =>
    have := (List.getElem?_eq_some_iff.1 h1).1
    exact ⟨⟨k.nd, by omega, k.ne⟩, by simp; omega, fun x hx => .inl hx⟩
  | new h0 h1 =>
    refine ⟨⟨List.nodup_append.2 ⟨k.nd, by simp, fun a ha b hb => ?_⟩, by simp; omega, fun x hx => ?_⟩, by simp; omega, fun x hx => by simpa using hx⟩
    · obtain rfl := List.mem_singleton.1 hb
      intro e; subst e; exact h1 ha
    · simp at hx
      rcases hx with hx | rfl
      · exact k.ne x hx
      · exact h0
end Go.Proofs.YtfbeeekakfllpaaDoor
