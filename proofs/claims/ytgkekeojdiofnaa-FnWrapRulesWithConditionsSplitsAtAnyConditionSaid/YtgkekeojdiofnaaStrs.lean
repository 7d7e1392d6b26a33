/-
  Slices of strings as lists of texts: what a walk asks of a slice of strings that it reads ('InS'), of a block of strings that the call itself made ('strs'), 'make' of such a block, a row that is appended to ('OwnT'). No statement of the seat is proved here.
-/
import Derived.Test.YtgkekeojdiofnaaOwn
namespace Go.Proofs.Ytgkekeojdiofnaa
open Go.RowKit

/-- the i-th text (empty beyond the end) -/
def tth (ts : List ByteArray) (i : Nat) : ByteArray := ts.getD i ByteArray.empty
theorem tth_get (ts : List ByteArray) (i : Nat) (h : i < ts.length) : tth ts i = ts[i] := by simp [tth, h]
theorem tth_some (ts : List ByteArray) (i : Nat) (h : i < ts.length) : ts[i]? = some (tth ts i) := by rw [tth_get ts i h]; exact List.getElem?_eq_getElem h
theorem tth_mem (ts : List ByteArray) (i : Nat) (h : i < ts.length) : tth ts i ∈ ts := by rw [tth_get ts i h]; exact List.getElem_mem h
theorem tth_of {ts : List ByteArray} {i : Nat} {t : ByteArray} (h : ts[i]? = some t) : tth ts i = t := by unfold tth; rw [List.getD_eq_getElem?_getD, h]; rfl

/-- a slice value whose address is 'ao' and whose elements are the texts ts -/
def InS (w : World) (ao : Option Addr) (ts : List ByteArray) : Prop :=
  ts = [] ∨ ∃ b off, ao = some ⟨b, off, none⟩ ∧ b < w.heap.size ∧ ∀ i, i < ts.length → w.cell? ⟨b, off + i, none⟩ = some (.string (tth ts i))
theorem InS.kept {w w' : World} {ao : Option Addr} {ts : List ByteArray} (h : InS w ao ts) (hb : Below w.heap.size w w') : InS w' ao ts := by
  rcases h with h | ⟨b, off, h1, h2, h3⟩
  · exact .inl h
  · exact .inr ⟨b, off, h1, Nat.lt_of_lt_of_le h2 hb.size, fun i hi => (hb.cell (p := ⟨b, off + i, none⟩) h2).trans (h3 i hi)⟩
theorem InS.drew {w : World} {ao : Option Addr} {ts : List ByteArray} (h : InS w ao ts) : InS w.drew ao ts := h
theorem InS.at {w : World} {ao : Option Addr} {ts : List ByteArray} (h : InS w ao ts) {i : Nat} (hi : i < ts.length) :
    ∃ b off, ao = some ⟨b, off, none⟩ ∧ b < w.heap.size ∧ w.cell? ⟨b, off + i, none⟩ = some (.string (tth ts i)) := by
  rcases h with h | ⟨b, off, h1, h2, h3⟩
  · subst h; simp at hi
  · exact ⟨b, off, h1, h2, h3 i hi⟩

/-- the cells of a row of texts -/
def strs (ts : List ByteArray) : Array Value := (ts.map Value.string).toArray
theorem strs_size (ts : List ByteArray) : (strs ts).size = ts.length := by simp [strs]
theorem strs_at (ts : List ByteArray) (i : Nat) (h : i < ts.length) : (strs ts)[i]? = some (.string (tth ts i)) := by simp [strs, tth, h]
theorem strs_set (ts : List ByteArray) (i : Nat) (v : ByteArray) : (strs ts).setIfInBounds i (.string v) = strs (ts.set i v) := by
  apply Array.ext'; simp [strs, List.map_set]
theorem Blk.inS {w : World} {g : Nat} {t : TypeId} {ts : List ByteArray} (h : Blk w g t (strs ts)) : InS w (some ⟨g, 0, none⟩) ts :=
  .inr ⟨g, 0, rfl, h.lt, fun i hi => by rw [Nat.zero_add]; exact (h.cell i).trans (strs_at ts i hi)⟩
theorem Blk.str {w : World} {g : Nat} {t : TypeId} {ts : List ByteArray} (h : Blk w g t (strs ts)) {i : Nat} (hi : i < ts.length) : w.cell? ⟨g, i, none⟩ = some (.string (tth ts i)) := (h.cell i).trans (strs_at ts i hi)
theorem Blk.putS {w : World} {g : Nat} {t : TypeId} {ts : List ByteArray} (h : Blk w g t (strs ts)) (i : Nat) (v : ByteArray) : Blk (w.setCell ⟨g, i, none⟩ (.string v)) g t (strs (ts.set i v)) := by
  have := h.set i (.string v); rwa [strs_set] at this

theorem made_strs (z : ByteArray) (n : Nat) : madeCells (Value.string z).cells n = strs (List.replicate n z) := by
  apply Array.ext'
  apply List.ext_getElem
  · simp [madeCells, strs]
  · intro i h1 h2
    simp [madeCells, strs, Value.cells, Nat.mod_one]

/-- 'make([]string, n)': a new block of n empty texts. -/
theorem wpList_make_strs {P : Program} (w : World) {ops : Array Oper} {rest : List Oper} {o : Oper} {a : Act} {Q : Exit → Act → World → Prop}
    (hg : o.guard = none) (l c : Operand) (t : TypeId) (hop : o.op = Op.makeSlice t l c)
    (e : TypeId) (z : ByteArray) (bytes : Nat) (h1 : P.underlying t = some (.slice e)) (h2 : (P.info? e).map (fun i => (i.zero, i.size, i.bytes)) = some (some (.string z), 1, bytes))
    (n : Nat) (hl : a.eval l = .int .i64 (n : Int)) (hc : a.eval c = .int .i64 (n : Int)) (b2 : bytes * n ≤ 281474976710656) (b3 : n ≤ maxLen)
    (hK : ∀ w', Blk w' w.heap.size e (strs (List.replicate n z)) → w.grownBy w' none → wpList P ops Q rest (a.put o.dst (.slice (some ⟨w.heap.size, 0, none⟩) n n)) w') :
    wpList P ops Q (o :: rest) a w := by
  obtain ⟨i, hi, hz, hs, hb⟩ := info_parts h2
  refine wpList_make_full w hg l c t hop w.heap.size e i (.string z) 1 h1 hi hz hs .i64 .i64 n n n hl hc rfl rfl (by rw [hb]; exact b2) b3 (Nat.le_refl _) ?_
  intro w' hown hgr
  refine hK w' ?_ hgr
  rw [made_strs] at hown
  obtain ⟨_, h | ⟨g, cap, cur, hv, _, hh, _, _, hcs, htk⟩⟩ := hown
  · simp at h
  · simp only [Value.slice.injEq, Option.some.injEq, Addr.mk.injEq, and_true, true_and] at hv
    obtain ⟨rfl, rfl⟩ := hv
    have : cur = strs (List.replicate n z) := by
      apply Array.ext'
      rw [← List.take_of_length_le (l := cur.toList) (i := n * 1) (by simp [hcs]), htk]
      simp
    rw [this] at hh
    exact hh

/-! a copy that is filled from the front -/
def cpyS (z : ByteArray) (ts : List ByteArray) (k : Nat) : List ByteArray := ts.take k ++ List.replicate (ts.length - k) z
theorem cpyS_zero (z : ByteArray) (ts : List ByteArray) : cpyS z ts 0 = List.replicate ts.length z := by simp [cpyS]
theorem cpyS_end (z : ByteArray) (ts : List ByteArray) : cpyS z ts ts.length = ts := by simp [cpyS]
theorem cpyS_length (z : ByteArray) (ts : List ByteArray) (k : Nat) (h : k ≤ ts.length) : (cpyS z ts k).length = ts.length := by simp [cpyS]; omega
theorem cpyS_step (z : ByteArray) (ts : List ByteArray) (k : Nat) (h : k < ts.length) : (cpyS z ts k).set k (tth ts k) = cpyS z ts (k + 1) := by
  have e : ts.length - k = (ts.length - (k + 1)) + 1 := by omega
  rw [tth_get ts k h]
  unfold cpyS
  have hm : (ts.take k).length = k := by rw [List.length_take]; omega
  rw [e, List.replicate_succ, List.set_append_right _ _ (by omega), hm, Nat.sub_self, List.set_cons_zero, List.take_succ_eq_append_getElem h, List.append_assoc, List.singleton_append]

/-- a slice of strings of the call's own, from block B on (e: the type of strings) -/
def OwnT (e : TypeId) (w : World) (B : Nat) (v : Value) (ts : List ByteArray) : Prop := w.ownsRow B e 1 v ts.length (ts.map Value.string)
theorem OwnT.lt {e : TypeId} {w : World} {B : Nat} {v : Value} {ts : List ByteArray} (h : OwnT e w B v ts) : ∀ g, v.ownBlock = some g → B ≤ g ∧ g < w.heap.size := World.ownsRow.lt h
theorem OwnT.gb {e : TypeId} {w w' : World} {B : Nat} {v : Value} {ts : List ByteArray} {r : Option Nat} (h : OwnT e w B v ts) (hg : w.grownBy w' r) (hne : v.ownBlock = none ∨ v.ownBlock ≠ r) : OwnT e w' B v ts := World.ownsRow.kept h hg hne
theorem OwnT.drew {e : TypeId} {w : World} {B : Nat} {v : Value} {ts : List ByteArray} (h : OwnT e w B v ts) : OwnT e w.drew B v ts := h
theorem OwnT.form {e : TypeId} {w : World} {B : Nat} {v : Value} {ts : List ByteArray} (h : OwnT e w B v ts) : ∃ ao cap, v = .slice ao ts.length cap := by
  rcases h.2 with ⟨rfl, e⟩ | ⟨g, cap, cur, rfl, _⟩
  · rw [e]; exact ⟨_, _, rfl⟩
  · exact ⟨_, _, rfl⟩
theorem OwnT.at {e : TypeId} {w : World} {B : Nat} {ao : Option Addr} {n cap : Nat} {ts : List ByteArray} (h : OwnT e w B (.slice ao n cap) ts) {i : Nat} (hi : i < ts.length) :
    ∃ g, ao = some ⟨g, 0, none⟩ ∧ w.cell? ⟨g, i, none⟩ = some (.string (tth ts i)) := by
  rcases h.2 with ⟨h1, h2⟩ | ⟨g, cap', cur, h1, hB, hh, hn, hc, hs, ht⟩
  · omega
  · simp only [Value.slice.injEq] at h1
    obtain ⟨rfl, rfl, rfl⟩ := h1
    refine ⟨g, rfl, ?_⟩
    have hx : cur.toList[i]? = some (.string (tth ts i)) := by
      have : (cur.toList.take (ts.length * 1))[i]? = some (.string (tth ts i)) := by rw [ht]; simp [tth, hi]
      rwa [List.getElem?_take_of_lt (by omega)] at this
    rw [blk_cell hh i]
    simpa using hx

/-- 'append(v, t)', one text -/
theorem wpList_pushS {P : Program} (w0 : World) {ops : Array Oper} {rest : List Oper} {o : Oper} {a : Act} {Q : Exit → Act → World → Prop} (hgd : o.guard = none) (s x : Operand) (t : TypeId)
    (ho : o.op = .call { callee := .builtin .append, args := #[s, x], argTypes := #[t, t] }) (B : Nat) (e : TypeId) (z : ByteArray) (bytes : Nat) (ht : P.underlying t = some (.slice e))
    (hinfo : (P.info? e).map (fun i => (i.zero, i.size, i.bytes)) = some (some (.string z), 1, bytes)) (v : Value) (ts : List ByteArray) (y : ByteArray) (hs : a.eval s = v) (hown : OwnT e w0 B v ts)
    (hx : a.eval x = .slice (some ⟨w0.heap.size, 0, none⟩) 1 1) (h63 : ts.length + 1 ≤ maxLen) (hby : (ts.length + 1) * bytes ≤ 140737488355328) (hB : B ≤ w0.heap.size)
    (h : ∀ v' w', OwnT e w' B v' (ts ++ [y]) → Gr w0 v w' v' → wpList P ops Q rest (a.put o.dst v') w') : wpList P ops Q (o :: rest) a (w0.alloc (.cells #[.string y] e)) := by
  obtain ⟨i0, hi, hz0, hz1, hz2⟩ := info_parts hinfo
  refine wpList_append_own_at _ hgd s x t ho B e i0 (.string z) 1 bytes ht hi hz0 hz1 hz2 rfl (by decide) v ts.length (ts.map Value.string) hs (World.ownsRow.alloc hown _) ⟨w0.heap.size, 0, none⟩ 1 1 [.string y] hx rfl ?_ (fun u hu => by simp at hu; subst hu; rfl) h63 hby (by simp; omega) ?_
  · intro j u hj
    match j, hj with
    | 0, hj => simp at hj; subst hj; rw [show (⟨w0.heap.size, 0, none⟩ : Addr).add 0 = ⟨w0.heap.size, 0, none⟩ from rfl]; rw [blk_cell (blk_new w0 _) 0]; rfl
  · intro v' w' h1 h2 h3 h4
    refine h v' w' ?_ ⟨gb_trans (World.grownBy_alloc w0 _ _) h2, ?_⟩
    · show w'.ownsRow B e 1 v' (ts ++ [y]).length ((ts ++ [y]).map Value.string)
      rw [List.map_append, List.length_append]; exact h1
    · rcases h4 with h4 | h4
      · exact .inl h4
      · exact .inr ⟨_, h4, by simp⟩

/-- what a law's walk is told of a slice of strings that came in -/
def IsStrs (w : World) (a : Option Addr) (len cap : Nat) (Sx : Nat → ByteArray) : Prop :=
  (a = none ∧ len = 0 ∧ cap = 0) ∨ ∃ x, a = some x ∧ len ≤ cap ∧ cap ≤ maxLen ∧ ∀ i, i < cap → w.cell? (x.add i) = some (.string (Sx i)) ∧ (Sx i).size ≤ maxLen
theorem strs_in {w : World} {a : Option Addr} {len cap : Nat} {Sx : Nat → ByteArray} (h : IsStrs w a len cap Sx) : ∃ ts : List ByteArray, ts.length = len ∧ InS w a ts ∧ len ≤ maxLen ∧ (∀ t ∈ ts, t.size ≤ maxLen) ∧ (a = none → len = 0) := by
  rcases h with ⟨rfl, rfl, rfl⟩ | ⟨x, rfl, h1, h2, h3⟩
  · exact ⟨[], rfl, .inl rfl, by simp, by simp, fun _ => rfl⟩
  · have hl : ((List.range len).map Sx).length = len := by simp
    refine ⟨(List.range len).map Sx, hl, ?_, by omega, fun t ht => ?_, fun e => by cases e⟩
    · by_cases h0 : len = 0
      · subst h0; exact .inl (by simp)
      · obtain ⟨b, off, spot⟩ := x
        have hc := (h3 0 (by omega)).1
        have hspot : spot = none := by simpa [Addr.add] using World.cell?_spot hc
        subst hspot
        refine .inr ⟨b, off, rfl, World.block_lt_of_cell? w _ hc, fun i hi => ?_⟩
        rw [hl] at hi
        have := (h3 i (by omega)).1
        have e : (⟨b, off, none⟩ : Addr).add i = ⟨b, off + i, none⟩ := by unfold Addr.add; split <;> simp_all
        rw [e] at this
        rw [this, tth_get _ i (by rw [hl]; exact hi)]; simp
    · obtain ⟨i, hi, rfl⟩ := List.mem_map.1 ht
      exact (h3 i (by have := List.mem_range.1 hi; omega)).2
end Go.Proofs.Ytgkekeojdiofnaa
