/-
  The law of the line offset tables, walked: it builds the model (prefix sums, starts and ends of lines) and finds each table as the model says. No statement of the seat is proved here.
-/
import Derived.Test.YthiehkgfmfpnfaaLow
import Derived.Test.YthiehkgfmfpnfaaZdAny
namespace Go.Proofs.Ythiehkgfmfpnfaa
open Go.RowKit
set_option linter.unusedVariables false
theorem info3 : (Try.prog.info? 3).map (fun i => (i.zero, i.size, i.bytes)) = some (some (.int .i64 0), 1, 8) := by kernel_rfl
/-- the law's own memory: prefix sums in block g, starts, ends -/
structure Ws (s : ByteArray) (wA : World) (g : Nat) (v8 v9 : Value) (ps xs ys : List Int) (wr : World) : Prop where
  pre : Blk wr g 3 (ints .i64 ps)
  plen : ps.length = s.size + 1
  o8 : Own .i64 3 wr (g + 1) v8 xs
  o9 : Own .i64 3 wr (g + 1) v9 ys
  ne : ∀ x, v8.ownBlock = some x → v9.ownBlock ≠ some x
  bel : Below g wA wr
  gA : g ≤ wA.heap.size
theorem Ws.drewN {s : ByteArray} {wA : World} {g : Nat} {v8 v9 : Value} {ps xs ys : List Int} {wr : World} (h : Ws s wA g v8 v9 ps xs ys wr) (m : Nat) : Ws s wA g v8 v9 ps xs ys (wr.drewN m) := by
  exact ⟨h.pre, h.plen, h.o8, h.o9, h.ne, ⟨h.bel.os, h.bel.tape, h.bel.output, h.bel.size, h.bel.block⟩, h.gA⟩
theorem Ws.lt {s : ByteArray} {wA : World} {g : Nat} {v8 v9 : Value} {ps xs ys : List Int} {wr : World} (h : Ws s wA g v8 v9 ps xs ys wr) : g + 1 ≤ wr.heap.size := h.pre.lt
theorem Ws.store {s : ByteArray} {wA : World} {g : Nat} {v8 v9 : Value} {ps xs ys : List Int} {wr : World} (h : Ws s wA g v8 v9 ps xs ys wr) (k : Nat) (z : Int) : Ws s wA g v8 v9 (ps.set k z) xs ys (wr.setCell ⟨g, k, none⟩ (.int .i64 z)) := by
  have hg : wr.grownBy (wr.setCell ⟨g, k, none⟩ (.int .i64 z)) (some g) := gb_set (gb_refl _ _) k none _
  refine ⟨h.pre.put k z, by rw [List.length_set]; exact h.plen, h.o8.gb hg ?_, h.o9.gb hg ?_, h.ne, below_gb h.bel hg (by have := h.lt; omega) (Nat.le_refl _), h.gA⟩
  · rcases hx : v8.ownBlock with _ | x
    · exact .inl rfl
    · exact .inr (fun e => by cases e; have := (h.o8.lt g hx).1; omega)
  · rcases hx : v9.ownBlock with _ | x
    · exact .inl rfl
    · exact .inr (fun e => by cases e; have := (h.o9.lt g hx).1; omega)
theorem Ws.push8 {s : ByteArray} {wA : World} {g : Nat} {v8 v9 v' : Value} {ps xs ys cs : List Int} {wr w' : World} (h : Ws s wA g v8 v9 ps xs ys wr) (ho : Own .i64 3 w' (g + 1) v' cs) (hg : Gr wr v8 w' v') : Ws s wA g v' v9 ps cs ys w' := by
  refine ⟨h.pre.gb hg.1 (fun e => ?_), h.plen, ho, h.o9.gb hg.1 ?_, fun x hx => ?_, h.bel.grown hg.1 (by have := h.lt; omega) (fun x hx => by have := (h.o8.lt x hx).1; omega), h.gA⟩
  · have := (h.o8.lt g e.symm).1; omega
  · rcases hx : v9.ownBlock with _ | x
    · exact .inl rfl
    · exact .inr (fun e => h.ne x e.symm hx)
  · rcases hg.2 with e | ⟨y, e, hy⟩
    · exact h.ne x (e.symm.trans hx)
    · intro h9; rw [e] at hx; cases hx; have := (h.o9.lt _ h9).2; omega
theorem Ws.push9 {s : ByteArray} {wA : World} {g : Nat} {v8 v9 v' : Value} {ps xs ys cs : List Int} {wr w' : World} (h : Ws s wA g v8 v9 ps xs ys wr) (ho : Own .i64 3 w' (g + 1) v' cs) (hg : Gr wr v9 w' v') : Ws s wA g v8 v' ps xs cs w' := by
  refine ⟨h.pre.gb hg.1 (fun e => ?_), h.plen, h.o8.gb hg.1 ?_, ho, fun x hx => ?_, h.bel.grown hg.1 (by have := h.lt; omega) (fun x hx => by have := (h.o9.lt x hx).1; omega), h.gA⟩
  · have := (h.o9.lt g e.symm).1; omega
  · rcases hx : v8.ownBlock with _ | x
    · exact .inl rfl
    · exact .inr (fun e => h.ne x hx e.symm)
  · intro h9
    rcases hg.2 with e | ⟨y, e, hy⟩
    · exact h.ne x hx (e.symm.trans h9)
    · rw [e] at h9; cases h9; have := (h.o8.lt _ hx).2; omega
def fsts (l : List (Nat × Nat)) : List Int := l.map fun p => (p.1 : Int)
def snds (l : List (Nat × Nat)) : List Int := l.map fun p => (p.2 : Int)
theorem fsts_snoc (l : List (Nat × Nat)) (a b : Nat) : fsts (l ++ [(a, b)]) = fsts l ++ [(a : Int)] := by simp [fsts]
theorem snds_snoc (l : List (Nat × Nat)) (a b : Nat) : snds (l ++ [(a, b)]) = snds l ++ [(b : Int)] := by simp [snds]
theorem fsts_length (l : List (Nat × Nat)) : (fsts l).length = l.length := by simp [fsts]
theorem snds_length (l : List (Nat × Nat)) : (snds l).length = l.length := by simp [snds]
theorem fsts_nth (l : List (Nat × Nat)) (k : Nat) (h : k < l.length) : nth (fsts l) k = ((l[k]'h).1 : Int) := by rw [nth_get _ _ (by rw [fsts_length]; exact h)]; simp [fsts]
theorem snds_nth (l : List (Nat × Nat)) (k : Nat) (h : k < l.length) : nth (snds l) k = ((l[k]'h).2 : Int) := by rw [nth_get _ _ (by rw [snds_length]; exact h)]; simp [snds]
theorem LS_le (s : ByteArray) (k : Nat) (h : k ≤ s.size) : LS s k ≤ s.size := by
  induction k with
  | zero => exact Nat.zero_le _
  | succ k ih =>
    rw [LS]; split
    · exact wd_le s k (by omega)
    · exact ih (by omega)
theorem T_bd (s : ByteArray) (k : Nat) (h : k ≤ s.size) : ∀ p ∈ T s k, p.1 ≤ s.size ∧ p.2 ≤ s.size := by
  induction k with
  | zero => intro p hp; cases hp
  | succ k ih =>
    rw [T]; split
    · intro p hp
      rw [List.mem_append] at hp
      rcases hp with hp | hp
      · exact ih (by omega) p hp
      · simp at hp; subst hp; exact ⟨LS_le s k (by omega), by show k ≤ _; omega⟩
    · exact ih (by omega)
/-- the prefix sums below j are right -/
def Pre (s : ByteArray) (ps : List Int) (j : Nat) : Prop := ∀ t, t < j → nth ps t = (U s t : Int)
theorem Pre.step {s : ByteArray} {ps : List Int} {j : Nat} (h : Pre s ps j) (hl : j < ps.length) (z : Int) (hz : z = U s j) : Pre s (ps.set j z) (j + 1) := by
  intro t ht
  rw [nth_set _ _ _ _ hl]
  by_cases e : t = j
  · rw [if_pos e, e, hz]
  · rw [if_neg e]; exact h t (by omega)
/-- the first loop at the rune start i -/
def GL (s : ByteArray) (wA : World) (g k : Nat) (v8 v9 v10 v11 v12 : Value) (wr : World) : Prop := ∃ (i : Nat) (ps : List Int), Bd s i ∧ s.size - i ≤ k ∧ v10 = .int .i64 (U s i : Nat) ∧ v11 = .int .i64 (LS s i : Nat) ∧ v12 = .int .i64 i ∧ Ws s wA g v8 v9 ps (fsts (T s i)) (snds (T s i)) wr ∧ Pre s ps i
/-- its inner loop: the bytes up to j have their sums -/
def GK (s : ByteArray) (wA : World) (g i e : Nat) (v8 v9 : Value) (k : Nat) (v15 : Value) (wr : World) : Prop := ∃ (j : Nat) (ps : List Int), v15 = .int .i64 j ∧ i + 1 ≤ j ∧ j ≤ e ∧ e - j ≤ k ∧ Ws s wA g v8 v9 ps (fsts (T s i)) (snds (T s i)) wr ∧ Pre s ps j
/-- all that is laid: tables, starts, ends, sums -/
def Fin (s : ByteArray) (wA : World) (B : Nat) (v5 v8 v9 : Value) (ts : List Tb) (L : List (Nat × Nat)) (wr : World) : Prop := ∃ ps, Ws s wA wA.heap.size v8 v9 ps (fsts L) (snds L) wr ∧ OwnB wr B v5 ts ∧ Tabs s wr B wA.heap.size ts L ∧ Pre s ps (s.size + 1)
theorem Fin.drewN {s : ByteArray} {wA : World} {B : Nat} {v5 v8 v9 : Value} {ts : List Tb} {L : List (Nat × Nat)} {wr : World} (h : Fin s wA B v5 v8 v9 ts L wr) (m : Nat) : Fin s wA B v5 v8 v9 ts L (wr.drewN m) := by
  obtain ⟨ps, h1, h2, h3, h4⟩ := h
  exact ⟨ps, h1.drewN m, h2, h3, h4⟩
def G3 (s : ByteArray) (wA : World) (B nl : Nat) (v5 v8 v9 : Value) (ts : List Tb) (L : List (Nat × Nat)) (k : Nat) (v16 : Value) (wr : World) : Prop := ∃ l : Nat, v16 = .int .i64 l ∧ l ≤ nl ∧ nl - l ≤ k ∧ Fin s wA B v5 v8 v9 ts L wr
theorem Own.cell {k : IntKind} {e : TypeId} {w : World} {B n cap : Nat} {ao : Option Addr} {zs : List Int} (h : Own k e w B (.slice ao n cap) zs) (i : Nat) (hi : i < zs.length) : ∃ b off, ao = some ⟨b, off, none⟩ ∧ b < w.heap.size ∧ w.cell? ⟨b, off + i, none⟩ = some (.int k (nth zs i)) := by
  obtain ⟨ao', cap', he, hin, _⟩ := h.form
  cases he
  exact hin.at hi
theorem Own.len {k : IntKind} {e : TypeId} {w : World} {B n cap : Nat} {ao : Option Addr} {zs : List Int} (h : Own k e w B (.slice ao n cap) zs) : n = zs.length := by
  obtain ⟨ao', cap', he, hin, _⟩ := h.form
  cases he
  rfl
theorem fin_get {s : ByteArray} {wA : World} {B g5 nl cap5 : Nat} {v8 v9 : Value} {ts : List Tb} {L : List (Nat × Nat)} {wr : World} (h : Fin s wA B (.slice (some ⟨g5, 0, none⟩) nl cap5) v8 v9 ts L wr) (l : Nat) (hl : l < ts.length) (hn : nl ≤ 2097152) (t : Tb) (ht : ts[l]'hl = t) :
    Calls Try.prog 9 #[.slice (some ⟨g5, 0, none⟩) nl cap5, .int .i64 l] wr (fun e w' => e = .returned (.int .i32 t.st) ∧ wr = w') ∧ Calls Try.prog 10 #[.slice (some ⟨g5, 0, none⟩) nl cap5, .int .i64 l] wr (fun e w' => e = .returned t.v ∧ wr = w')
    ∧ Calls Try.prog 11 #[.slice (some ⟨g5, 0, none⟩) nl cap5, .int .i64 l] wr (fun e w' => e = .returned (.int .i32 t.f) ∧ wr = w') := by
  subst ht
  obtain ⟨ps, _, ho, _⟩ := h
  obtain ⟨g, cap, he, hg, hc⟩ := ho.form (fun e => by subst e; exact absurd hl (by simp))
  cases he
  exact getters _ _ _ _ _ _ hl hn (hc l hl 0 (by omega)) (hc l hl 1 (by omega)) (hc l hl 2 (by omega))
/-- the search for the first rune above 0x7F, at byte j -/
def G4 (s : ByteArray) (wA : World) (B : Nat) (v5 v8 v9 : Value) (ts : List Tb) (L : List (Nat × Nat)) (st e k : Nat) (v19 v20 : Value) (wr : World) : Prop := ∃ j : Nat, v19 = .int .i64 (-1) ∧ v20 = .int .i64 j ∧ st ≤ j ∧ j ≤ s.size ∧ NoNA s st j ∧ s.size - j ≤ k ∧ Fin s wA B v5 v8 v9 ts L wr
/-- behind it -/
def FR (s : ByteArray) (wA : World) (B : Nat) (v5 v8 v9 : Value) (ts : List Tb) (L : List (Nat × Nat)) (c : Option (List Int)) (f : Nat) (v19 : Value) (wr : World) : Prop := ((c = none ∧ v19 = .int .i64 (-1)) ∨ (c ≠ none ∧ v19 = .int .i64 f)) ∧ Fin s wA B v5 v8 v9 ts L wr
def G5 (s : ByteArray) (wA : World) (B : Nat) (v5 v8 v9 : Value) (ts : List Tb) (L : List (Nat × Nat)) (f d k : Nat) (v25 : Value) (wr : World) : Prop := ∃ o : Nat, v25 = .int .i64 o ∧ f ≤ o ∧ o ≤ d + 1 ∧ d + 1 - o ≤ k ∧ Fin s wA B v5 v8 v9 ts L wr
theorem entry_none {s : ByteArray} {st e j f : Nat} {c : Option (List Int)} (h : Entry s st e c f) (hn : NoNA s st j) (hj : e < j ∨ s.size ≤ j) : c = none := by
  rcases h with ⟨h, _⟩ | ⟨⟨h1, h2, h3, h4⟩, h5, _⟩
  · exact h
  · exact absurd (hn (st + f) h1 (by omega)) (Nat.not_lt.2 h3)
theorem entry_some {s : ByteArray} {st e j f : Nat} {c : Option (List Int)} (h : Entry s st e c f) (hn : NoNA s st j) (h1 : st ≤ j) (h2 : j ≤ e) (h3 : j < s.size) (hb : 128 ≤ byteAt s j) : c ≠ none ∧ j = st + f := by
  rcases h with ⟨_, _, h⟩ | ⟨hf, h5, h6⟩
  · exact absurd (h j h1 h2 h3) (Nat.not_lt.2 hb)
  · exact ⟨by rw [h6]; simp, firstNA_uniq ⟨h1, h3, hb, hn⟩ hf⟩
theorem entry_uniq {s : ByteArray} {st e f : Nat} {c c' : Option (List Int)} (h : Entry s st e c f) (k : Entry s st e c' f) : c = c' := by
  rcases h with ⟨h, _, h3⟩ | ⟨hf, h5, h6⟩
  · rcases k with ⟨k, _⟩ | ⟨kf, k5, k6⟩
    · rw [h, k]
    · exact absurd (h3 (st + f) kf.1 k5 kf.2.1) (Nat.not_lt.2 kf.2.2.1)
  · rcases k with ⟨k, _, k3⟩ | ⟨kf, k5, k6⟩
    · exact absurd (k3 (st + f) hf.1 h5 hf.2.1) (Nat.not_lt.2 hf.2.2.1)
    · rw [h6, k6]
theorem fin_sl {s : ByteArray} {wA : World} {B : Nat} {v5 v8 v9 : Value} {ts : List Tb} {L : List (Nat × Nat)} {wr : World} (h : Fin s wA B v5 v8 v9 ts L wr) (l st en : Nat) (hl : l < ts.length) (hL : l < L.length) (t : Tb) (ht : ts[l]'hl = t) (h1 : (L[l]'hL).1 = st) (h2 : (L[l]'hL).2 = en) (c : Option (List Int)) (hE : Entry s st en c t.f) : Sl wr B t.v c := by
  obtain ⟨ps, _, _, h, _⟩ := h
  obtain ⟨_, c', h4, h5, _⟩ := h.2 l hl hL
  rw [ht] at h4 h5
  rw [h1, h2] at h5
  rw [entry_uniq hE h5]; exact h4
theorem sl_cell {w : World} {B n cap g : Nat} {zs : List Int} (h : Sl w B (.slice (some ⟨g, 0, none⟩) n cap) (some zs)) (q : Nat) (hq : q < zs.length) : w.cell? ⟨g, q, none⟩ = some (.int .i32 (nth zs q)) := by
  rcases h with ⟨h, _⟩ | ⟨zs', hz, h, _⟩
  · cases h
  · cases hz
    obtain ⟨b, off, e, _, hc⟩ := h.cell q hq
    cases e
    rwa [Nat.zero_add] at hc
theorem sl_form {w : World} {B : Nat} {v : Value} {zs : List Int} (h : Sl w B v (some zs)) : ∃ g cap, v = .slice (some ⟨g, 0, none⟩) zs.length cap ∧ g < w.heap.size := by
  rcases h with ⟨h, _⟩ | ⟨zs', hz, h, g, hg⟩
  · cases h
  · cases hz
    obtain ⟨ao, cap, rfl, _, _, h | ⟨g, rfl, _, hl⟩⟩ := h.form
    · rw [h.1] at hg; cases hg
    · exact ⟨g, cap, rfl, hl⟩
theorem fin_pre {s : ByteArray} {wA : World} {B : Nat} {v5 v8 v9 : Value} {ts : List Tb} {L : List (Nat × Nat)} {wr : World} (h : Fin s wA B v5 v8 v9 ts L wr) (k : Nat) (hk : k ≤ s.size) : wr.cell? ⟨wA.heap.size, k, none⟩ = some (.int .i64 (U s k : Nat)) := by
  obtain ⟨ps, h, _, _, hp⟩ := h
  rw [h.pre.int (i := k) (by have := h.plen; omega), hp k (by omega)]
def LawTrue (w : World) (e : Ending) (w' : World) : Prop := e = .returned (.bool true) ∧ Below w.heap.size w w'
set_option maxRecDepth 100000 in
set_option maxHeartbeats 4000000 in
theorem law_any (s : ByteArray) (n : Nat) (w : World) (hz : s.size ≤ 1048576) (hn : n ≤ 65536) : Calls Try.prog 3 #[.string s, .int .i32 n] w (LawTrue w) := by
  obtain ⟨i3, hi3, hz30, hz31, hz32⟩ := info_parts info3
  go_enter Try.func3, Try.ntmps3
  go_upto_region 8 with (first
    | (go_at_call 4; refine (bytes_yes s n _ hz).mono ?_; rintro e w' ⟨rfl, rfl⟩)
    | (go_at_call 5; refine (glot_any s n _ hz hn).mono ?_; rintro e wA ⟨v5, ts, rfl, ho5, ht5, hb5⟩))
  have HA := Lib.hid (And.intro ho5 (And.intro ht5 hb5))
  have hAz := hb5.size
  clear ho5 ht5 hb5
  obtain ⟨n1, hn1, hn2⟩ : ∃ n1 : Nat, ((s.size : Int) + 1) = (n1 : Int) ∧ n1 = s.size + 1 := ⟨s.size + 1, by omega, rfl⟩
  have hn3 : n1 ≤ 1048577 := by omega
  have HN1 := Lib.hid hn2
  clear hn2
  go_upto_region 10 with (at_make; refine wpList_make_ints wA rfl _ _ 25 rfl 3 .i64 8 Try.underlying25 info3 n1 rfl rfl (by omega) (by unfold maxLen; omega) ?_; intro wB hBk hgB)
  have hBz := hgB.size
  have hBlt := hBk.lt
  have HB := Lib.hid (And.intro hBk hgB)
  clear hBk hgB
  go_upto_region 11 with (at_make; refine wpList_make_own wB rfl _ _ 25 rfl (wA.heap.size + 1) 3 i3 _ 1 Try.underlying25 hi3 hz30 hz31 .i64 .i64 16 16 rfl rfl rfl (by rw [hz32]; omega) (by unfold maxLen; omega) (by omega) ?_; intro wC hO8 hgC)
  have hCz := hgC.size
  have HC := Lib.hid (And.intro hO8 hgC)
  clear hO8 hgC
  go_upto_region 12 with (at_make; refine wpList_make_own wC rfl _ _ 25 rfl (wA.heap.size + 1) 3 i3 _ 1 Try.underlying25 hi3 hz30 hz31 .i64 .i64 16 16 rfl rfl rfl (by rw [hz32]; omega) (by unfold maxLen; omega) (by omega) ?_; intro wD hO9 hgD)
  have hDz := hgD.size
  have HD := Lib.hid (And.intro hO9 hgD)
  clear hO9 hgD
  have HW0 : Hid (Ws s wA wA.heap.size (.slice (some ⟨wB.heap.size, 0, none⟩) 0 16) (.slice (some ⟨wC.heap.size, 0, none⟩) 0 16) (List.replicate n1 0) (fsts (T s 0)) (snds (T s 0)) wD) := Lib.hid (by
    have h8 : Own .i64 3 wD (wA.heap.size + 1) (.slice (some ⟨wB.heap.size, 0, none⟩) 0 16) [] := Own.gb HC.out.1 HD.out.2 (.inr (by simp [Value.ownBlock]))
    refine ⟨(HB.out.1.gb HC.out.2 (by simp)).gb HD.out.2 (by simp), by rw [List.length_replicate, HN1.out], h8, HD.out.1, ?_, ?_, Nat.le_refl _⟩
    · intro x hx h9
      have q1 := h8.lt x hx
      simp [Value.ownBlock] at hx h9
      have q2 := (World.ownsRow.lt HC.out.1 wB.heap.size rfl).2
      omega
    · exact (((Below.refl _ wA).grown HB.out.2 (Nat.le_refl _) (fun k h => by cases h)).grown HC.out.2 (by omega) (fun k h => by cases h)).grown HD.out.2 (by omega) (fun k h => by cases h))
  go_wp2_with fail
  go_loopg [8, 9, 10, 11, 12] s.size (fun k a b c d e wr => GL s wA wA.heap.size k a b c d e wr)
  case atStart => exact ⟨0, List.replicate n1 0, Bd.zero s, Nat.le_refl _, rfl, rfl, rfl, HW0.out, fun t ht => absurd ht (Nat.not_lt_zero _)⟩
  case round =>
    obtain ⟨i, ps, hbd, hk, rfl, rfl, rfl, hws, hpre⟩ := hrel
    have hiz := hbd.le
    have hpl := hws.plen
    have hgl := hws.lt
    have hUb := U_le s i
    have hLb := LS_le s i hiz
    rcases (show i = s.size ∨ i < s.size by omega) with rfl | hlt
    · have hs0 := hws.pre.int (i := s.size) (by omega)
      have hf0 := hws.pre.free s.size
      have hin : s.size < n1 := by have := HN1.out; omega
      have HW1 := Lib.hid (hws.store s.size (U s s.size : Nat))
      have HP1 : Hid (Pre s (ps.set s.size (U s s.size : Nat)) (s.size + 1)) := Lib.hid (hpre.step (by omega) _ rfl)
      have hTl : (T s s.size).length ≤ s.size := T_len s s.size
      have HTL : Hid ((fsts (T s s.size)).length + 1 ≤ maxLen ∧ ((fsts (T s s.size)).length + 1) * 8 ≤ 140737488355328 ∧ (snds (T s s.size)).length + 1 ≤ maxLen ∧ ((snds (T s s.size)).length + 1) * 8 ≤ 140737488355328) := Lib.hid (by
        rw [fsts_length, snds_length]; unfold maxLen; omega)
      clear hws hpre hbd hTl
      go_upto_region 29 with fail
      obtain ⟨w3, hw3⟩ : ∃ w3, wr.setCell ⟨wA.heap.size, s.size, none⟩ (.int .i64 (U s s.size : Nat)) = w3 := ⟨_, rfl⟩
      rw [hw3] at HW1 ⊢
      clear hw3 hs0 hf0
      go_upto_region 31 with (first
        | (at_builtin; refine wpList_push w3 rfl (.tmp 101) (.tmp 103) 25 rfl (wA.heap.size + 1) 3 .i64 8 Try.underlying25 info3 u8 (fsts (T s s.size)) (LS s s.size : Int) rfl HW1.out.o8 rfl HTL.out.1 HTL.out.2.1 HW1.out.lt ?_; intro v8 w5 ho5 hg5 hn5; have HP5 := Lib.hid (HW1.out.push8 ho5 hg5); clear ho5 hg5 hn5)
        | (at_builtin; refine wpList_push w5 rfl (.tmp 105) (.tmp 107) 25 rfl (wA.heap.size + 1) 3 .i64 8 Try.underlying25 info3 u9 (snds (T s s.size)) (s.size : Int) rfl HP5.out.o9 rfl HTL.out.2.2.1 HTL.out.2.2.2 HP5.out.lt ?_; intro v9 w6 ho6 hg6 hn6; have HP6 := Lib.hid (HP5.out.push9 ho6 hg6); clear ho6 hg6 hn6))
      obtain ⟨L, hL⟩ : ∃ L, T s s.size ++ [(LS s s.size, s.size)] = L := ⟨_, rfl⟩
      have hLb2 : ∀ p ∈ L, p.1 ≤ s.size ∧ p.2 ≤ s.size := by
        rw [← hL]
        intro p hp
        rw [List.mem_append] at hp
        rcases hp with hp | hp
        · exact T_bd s s.size (Nat.le_refl _) p hp
        · simp at hp; subst hp; exact ⟨hLb, Nat.le_refl _⟩
      have hLn : L.length ≤ 1048577 := by rw [← hL, List.length_append]; have := T_len s s.size; simp; omega
      have hL0 : 0 < L.length := by rw [← hL, List.length_append]; simp
      have hF : Fin s wA w.heap.size v5 v8 v9 ts L w6 := by
        refine ⟨_, by rw [← hL, fsts_snoc, snds_snoc]; exact HP6.out, HA.out.1.under HP6.out.bel (fun g hg => (HA.out.1.lt g hg).2), ?_, HP1.out⟩
        have := HA.out.2.1
        rw [hL] at this
        exact this.under HP6.out.bel
      have htl : ts.length = L.length := by obtain ⟨ps, _, _, h, _⟩ := hF; exact h.1
      obtain ⟨nl, hnl⟩ : ∃ nl, L.length = nl := ⟨_, rfl⟩
      have hv5 : ∃ g5 cap5, v5 = .slice (some ⟨g5, 0, none⟩) nl cap5 := by
        obtain ⟨ps, _, h, _⟩ := hF
        obtain ⟨g, cap, h, _⟩ := h.form (fun e => by rw [e] at htl; simp at htl; omega)
        exact ⟨g, cap, by rw [h, htl, hnl]⟩
      have hv8 : ∃ ao8 cap8, v8 = .slice ao8 nl cap8 := by
        obtain ⟨ps, h, _⟩ := hF
        obtain ⟨ao, cap, h, _⟩ := h.o8.form
        exact ⟨ao, cap, by rw [h, fsts_length, hnl]⟩
      have hv9 : ∃ ao9 cap9, v9 = .slice ao9 nl cap9 := by
        obtain ⟨ps, h, _⟩ := hF
        obtain ⟨ao, cap, h, _⟩ := h.o9.form
        exact ⟨ao, cap, by rw [h, snds_length, hnl]⟩
      obtain ⟨g5, cap5, rfl⟩ := hv5
      obtain ⟨ao8, cap8, rfl⟩ := hv8
      obtain ⟨ao9, cap9, rfl⟩ := hv9
      rw [hnl] at hLn hL0
      have HF := Lib.hid hF
      have HL := Lib.hid (And.intro hLb2 (And.intro htl hnl))
      clear hL hLb2 hF htl hnl
      go_wp2_with fail
      go_loopg [16] nl (fun k a wr => G3 s wA w.heap.size nl (.slice (some ⟨g5, 0, none⟩) nl cap5) (.slice ao8 nl cap8) (.slice ao9 nl cap9) ts L k a wr)
      case atStart => exact ⟨0, rfl, Nat.zero_le _, Nat.le_refl _, HF.out⟩
      case round =>
        obtain ⟨l, rfl, hll, hlk, hF⟩ := hrel
        rcases (show l = nl ∨ l < nl by omega) with rfl | hlt
        · have HFF := Lib.hid hF
          clear hF
          go_wp2_with fail
          go_ret
          obtain ⟨ps, h, _⟩ := HFF.out
          exact ⟨rfl, below_then HA.out.2.2 h.bel hAz⟩
        · have hlL : l < L.length := by rw [HL.out.2.2]; exact hlt
          have hlt2 : l < ts.length := by rw [HL.out.2.1]; exact hlL
          obtain ⟨st, hst⟩ : ∃ st, (L[l]'hlL).1 = st := ⟨_, rfl⟩
          obtain ⟨en, hen⟩ : ∃ en, (L[l]'hlL).2 = en := ⟨_, rfl⟩
          obtain ⟨t, ht⟩ : ∃ t, ts[l]'hlt2 = t := ⟨_, rfl⟩
          have hbd := HL.out.1 _ (List.getElem_mem hlL)
          rw [hst, hen] at hbd
          obtain ⟨hstz, henz⟩ := hbd
          have hent : t.st = st ∧ ∃ c, Sl wr w.heap.size t.v c ∧ Entry s st en c t.f ∧ ∀ g, t.v.ownBlock = some g → g < wA.heap.size := by
            obtain ⟨ps, _, _, h, _⟩ := hF
            have := h.2 l hlt2 hlL
            rwa [ht, hst, hen] at this
          obtain ⟨htst, c, _, hE, _⟩ := hent
          have hc8 : ∃ b off, ao8 = some ⟨b, off, none⟩ ∧ b < wr.heap.size ∧ wr.cell? ⟨b, off + l, none⟩ = some (.int .i64 st) := by
            obtain ⟨ps, h, _⟩ := hF
            have := h.o8.cell l (by rw [fsts_length]; exact hlL)
            rwa [fsts_nth L l hlL, hst] at this
          have hc9 : ∃ b off, ao9 = some ⟨b, off, none⟩ ∧ b < wr.heap.size ∧ wr.cell? ⟨b, off + l, none⟩ = some (.int .i64 en) := by
            obtain ⟨ps, h, _⟩ := hF
            have := h.o9.cell l (by rw [snds_length]; exact hlL)
            rwa [snds_nth L l hlL, hen] at this
          obtain ⟨b8, o8, rfl, hb8, c8⟩ := hc8
          obtain ⟨b9, o9, rfl, hb9, c9⟩ := hc9
          have HF3 := Lib.hid hF
          have HE := Lib.hid hE
          have HT := Lib.hid (And.intro ht htst)
          have HS := Lib.hid (And.intro hst hen)
          clear hF hE hst hen ht htst
          go_upto_block 6 with fail
          clear c8 c9
          go_cut [19] (fun v wc => FR s wA w.heap.size (.slice (some ⟨g5, 0, none⟩) nl cap5) (.slice (some ⟨b8, o8, none⟩) nl cap8) (.slice (some ⟨b9, o9, none⟩) nl cap9) ts L c t.f v wc)
          case first =>
            go_wp2_with fail
            go_loopg [19, 20] s.size (fun k a b wr => G4 s wA w.heap.size (.slice (some ⟨g5, 0, none⟩) nl cap5) (.slice (some ⟨b8, o8, none⟩) nl cap8) (.slice (some ⟨b9, o9, none⟩) nl cap9) ts L st en k a b wr)
            case atStart => exact ⟨st, rfl, rfl, Nat.le_refl _, hstz, fun j h1 h2 => absurd h2 (Nat.not_lt.2 h1), by omega, HF3.out⟩
            case round =>
              obtain ⟨j, rfl, rfl, hj1, hj2, hnn, hjk, hF⟩ := hrel
              have HN := Lib.hid (And.intro hnn hF)
              clear hnn hF
              rcases (show en < j ∨ (j ≤ en ∧ j = s.size) ∨ (j ≤ en ∧ j < s.size) by omega) with h | ⟨h, rfl⟩ | ⟨h, hjs⟩
              · have q : decide (j ≤ en) = false := decide_eq_false (by omega)
                have HX := Lib.hid (entry_none HE.out HN.out.1 (.inl h))
                go_wp2_with fail
                go_meet
                exact ⟨.inl ⟨HX.out, rfl⟩, HN.out.2⟩
              · have HX := Lib.hid (entry_none HE.out HN.out.1 (.inr (Nat.le_refl _)))
                go_wp2_with fail
                go_meet
                exact ⟨.inl ⟨HX.out, rfl⟩, HN.out.2⟩
              · have hcp : (Utf8.decode s j).1 = cpt s j := rfl
                have hwd : (Utf8.decode s j).2 = wd s j := rfl
                by_cases hb : byteAt s j < 128
                · obtain ⟨hw, hc⟩ := wd_ascii s j hjs hb
                  have hcc : cpt s j < 128 := by omega
                  have HNN : Hid (NoNA s st (j + 1)) := Lib.hid (fun t h1 h2 => by
                    rcases (show t = j ∨ t < j by omega) with rfl | h3
                    · exact hb
                    · exact HN.out.1 t h1 h3)
                  rw [hw] at hwd
                  have HD := Lib.hid (And.intro hcp hwd)
                  generalize cpt s j = cp at *
                  clear hw hc hb hcp hwd
                  go_wp2_with (go_at_call 6; refine (Zd.any s j _ hjs hz).mono ?_; rintro e w2 ⟨rfl, m, hw2⟩; have HF4 : Hid (Fin s wA w.heap.size (.slice (some ⟨g5, 0, none⟩) nl cap5) (.slice (some ⟨b8, o8, none⟩) nl cap8) (.slice (some ⟨b9, o9, none⟩) nl cap9) ts L w2) := Lib.hid (by rw [hw2]; exact HN.out.2.drewN m); clear hw2; rw [HD.out.1, HD.out.2])
                  go_roundg (s.size - (j + 1))
                  case measure => omega
                  case rel => exact ⟨j + 1, rfl, by go_num, by omega, hjs, HNN.out, Nat.le_refl _, HF4.out⟩
                · have hh := cpt_high s j hjs (by omega)
                  have hcc : 127 < cpt s j := by omega
                  obtain ⟨hcn, hjf⟩ := entry_some HE.out HN.out.1 hj1 h hjs (by omega)
                  have HX := Lib.hid hcn
                  have hsub : ((j : Int) - (st : Int)) = (t.f : Int) := by omega
                  have hcpl : cpt s j ≤ 2147483647 := decode_le s j
                  have HD := Lib.hid (And.intro hcp hwd)
                  generalize cpt s j = cp at *
                  clear hb hcp hwd hcn hjf hh
                  go_wp2_with (go_at_call 6; refine (Zd.any s j _ hjs hz).mono ?_; rintro e w2 ⟨rfl, m, hw2⟩; have HF4 : Hid (Fin s wA w.heap.size (.slice (some ⟨g5, 0, none⟩) nl cap5) (.slice (some ⟨b8, o8, none⟩) nl cap8) (.slice (some ⟨b9, o9, none⟩) nl cap9) ts L w2) := Lib.hid (by rw [hw2]; exact HN.out.2.drewN m); clear hw2; rw [HD.out.1])
                  go_meet
                  exact ⟨.inr ⟨HX.out, rfl⟩, HF4.out⟩
          case rest =>
            obtain ⟨hv, hF⟩ := hcut
            have hsl := fin_sl hF l st en hlt2 hlL t HT.out.1 HS.out.1 HS.out.2 c HE.out
            have HGT := Lib.hid (fin_get hF l hlt2 (by omega) t HT.out.1)
            have HF5 := Lib.hid hF
            clear hF
            rcases hv with ⟨hc, rfl⟩ | ⟨hc, rfl⟩
            · have htv : t.v = .slice none 0 0 := by
                rcases hsl with ⟨_, h⟩ | ⟨zs, h, _⟩
                · exact h
                · rw [hc] at h; cases h
              have htf : t.f = 0 := by
                rcases HE.out with ⟨_, h, _⟩ | ⟨_, _, h⟩
                · exact h
                · rw [hc] at h; cases h
              have HV := Lib.hid (And.intro htv htf)
              have hnil := fun (w : World) => run_neq_slice_nil_any (P := Try.prog) w 31 21 none 0 0 0 0 Try.underlying31
              simp only [Option.isNone_none, Bool.not_true] at hnil
              clear hc htv htf hsl
              go_wp2_with (first
                | (go_at_call 9; refine HGT.out.1.mono ?_; rintro e w' ⟨rfl, rfl⟩; rw [HT.out.2])
                | (go_at_call 10; refine HGT.out.2.1.mono ?_; rintro e w' ⟨rfl, rfl⟩; rw [HV.out.1])
                | (go_at_call 11; refine HGT.out.2.2.mono ?_; rintro e w' ⟨rfl, rfl⟩; rw [HV.out.2]))
              go_roundg (nl - (l + 1))
              case measure => omega
              case rel => exact ⟨l + 1, by go_num, hlt, Nat.le_refl _, HF5.out⟩
            · have hE2 : FirstNA s st (st + t.f) ∧ st + t.f ≤ en ∧ c = some (cols s st t.f (en - (st + t.f) + 1)) := by
                rcases HE.out with ⟨h, _⟩ | h
                · exact absurd h hc
                · exact h
              obtain ⟨hfn, hfe, rfl⟩ := hE2
              obtain ⟨f, hf⟩ : ∃ f, t.f = f := ⟨_, rfl⟩
              rw [hf] at hfn hfe hsl
              obtain ⟨bc, cc, htv, hbc⟩ := sl_form hsl
              rw [cols_length] at htv
              obtain ⟨tn, htn⟩ : ∃ tn, en - (st + f) + 1 = tn := ⟨_, rfl⟩
              rw [htn] at htv
              obtain ⟨d, hd⟩ : ∃ d, en - st = d := ⟨_, rfl⟩
              have hd1 : ((en : Int) - (st : Int)) = (d : Int) := by omega
              obtain ⟨d2, hd2⟩ : ∃ d2, d - f = d2 := ⟨_, rfl⟩
              have hd3 : ((d : Int) - (f : Int)) = (d2 : Int) := by omega
              have hd4 : ((d2 : Int) + 1) = (tn : Int) := by omega
              have hdb : d ≤ 1048576 := by omega
              have hfd : f ≤ d := by omega
              have htnb : tn ≤ 1048577 := by omega
              rw [hf]
              have HV := Lib.hid (And.intro htv (And.intro hf (And.intro htn (And.intro hd hd2))))
              have hnil := fun (w : World) => Lib.run_eql_slice_nil (P := Try.prog) w 31 21 (some ⟨bc, 0, none⟩) tn cc 0 0 Try.underlying31
              simp only [Option.isNone_some] at hnil
              clear hc htv hsl hf htn hd hd2 hfn
              go_wp2_with (first
                | (go_at_call 9; refine HGT.out.1.mono ?_; rintro e w' ⟨rfl, rfl⟩; rw [HT.out.2])
                | (go_at_call 10; refine HGT.out.2.1.mono ?_; rintro e w' ⟨rfl, rfl⟩; rw [HV.out.1])
                | (go_at_call 11; refine HGT.out.2.2.mono ?_; rintro e w' ⟨rfl, rfl⟩; rw [HV.out.2.1]))
              go_loopg [25] (d + 1) (fun k a wr => G5 s wA w.heap.size (.slice (some ⟨g5, 0, none⟩) nl cap5) (.slice (some ⟨b8, o8, none⟩) nl cap8) (.slice (some ⟨b9, o9, none⟩) nl cap9) ts L f d k a wr)
              case atStart => exact ⟨f, rfl, Nat.le_refl _, by omega, by omega, HF5.out⟩
              case round =>
                obtain ⟨o, rfl, ho1, ho2, hok, hF⟩ := hrel
                rcases (show o = d + 1 ∨ o ≤ d by omega) with ho | hod
                · have HFo := Lib.hid hF
                  have q : decide (o ≤ d) = false := decide_eq_false (by omega)
                  clear hF ho
                  go_wp2_with fail
                  go_roundg (nl - (l + 1))
                  case measure => omega
                  case rel => exact ⟨l + 1, by go_num, hlt, Nat.le_refl _, HFo.out⟩
                · have hFi := fin_sl hF l st en hlt2 hlL t HT.out.1 HS.out.1 HS.out.2 _ HE.out
                  obtain ⟨q, hq⟩ : ∃ q, o - f = q := ⟨_, rfl⟩
                  obtain ⟨so, hso⟩ : ∃ so, st + o = so := ⟨_, rfl⟩
                  have hsoz : so ≤ s.size := by have := HV.out.2.2.2.1; omega
                  have hst1 : st < n1 := by have := HN1.out; omega
                  have hso1 : so < n1 := by have := HN1.out; omega
                  have hq1 : IntKind.i64.wrap ((o : Int) - (f : Int)) = (q : Int) := by rw [IntWalk.i64_in _ (by omega)]; omega
                  have hq2 : IntKind.i64.wrap ((st : Int) + (o : Int)) = (so : Int) := by rw [IntWalk.i64_in _ (by omega)]; omega
                  have hqt : q < tn := by have := HV.out.2.2.1; have := HV.out.2.2.2.1; omega
                  have hm := U_mono' s (show st ≤ so by omega)
                  have hub := U_le s so
                  obtain ⟨x, hx⟩ : ∃ x, U s so = x := ⟨_, rfl⟩
                  obtain ⟨y, hy⟩ : ∃ y, U s st = y := ⟨_, rfl⟩
                  rw [hx, hy] at hm
                  rw [hx] at hub
                  obtain ⟨z, hzz⟩ : ∃ z, x - y = z := ⟨_, rfl⟩
                  have hq3 : IntKind.i64.wrap ((x : Int) - (y : Int)) = (z : Int) := by rw [IntWalk.i64_in _ (by omega)]; omega
                  have hq4 : IntKind.i64.wrap (z : Int) = (z : Int) := IntWalk.i64_in _ (by omega)
                  have c1 := fin_pre hF so hsoz
                  have c2 := fin_pre hF st hstz
                  rw [hx] at c1
                  rw [hy] at c2
                  have c3 : wr.cell? ⟨bc, q, none⟩ = some (.int .i32 z) := by
                    rw [HV.out.2.1, HV.out.2.2.1, HV.out.1] at hFi
                    have := sl_cell hFi q (by rw [cols_length]; exact hqt)
                    rw [this, cols_nth _ _ _ _ _ hqt, show st + f + q = so by omega, hx, hy, ← hzz]
                    congr 2
                    omega
                  have HFo := Lib.hid hF
                  obtain ⟨k', hk1, hk2⟩ : ∃ k', k' + 1 ≤ d + 1 - o ∧ d + 1 - (o + 1) ≤ k' := ⟨d + 1 - (o + 1), by omega, Nat.le_refl _⟩
                  clear hF hFi hx hy hzz hq hso
                  go_upto_region 59 with fail
                  go_quiet (fail)
                  clear c1 c2 c3 hq1 hq2 hq3 hq4
                  go_wp2_with fail
                  go_roundg k'
                  case measure => exact Nat.lt_of_lt_of_le (Nat.lt_of_succ_le hk1) hok
                  case rel => exact ⟨o + 1, by go_num, Nat.le_succ_of_le ho1, Nat.succ_le_succ hod, hk2, HFo.out.drewN _⟩
    · have HR := Lib.hid (And.intro hws (And.intro hpre hbd))
      clear hws hpre hbd
      go_upto_region 17 with (go_at_call 6; refine (Zd.any s i _ hlt hz).mono ?_; rintro e w2 ⟨rfl, m, hw2⟩; have HW2 : Hid (Ws s wA wA.heap.size u8 u9 ps (fsts (T s i)) (snds (T s i)) w2) := Lib.hid (by rw [hw2]; exact HR.out.1.drewN m); clear hw2)
      have hcp : (Utf8.decode s i).1 = cpt s i := rfl
      have hwd : (Utf8.decode s i).2 = wd s i := rfl
      rw [hcp, hwd]
      clear hcp hwd
      have hwp := wd_pos s i hlt
      have hwl := wd_le s i hlt
      obtain ⟨wn, hwn⟩ : ∃ wn, wd s i = wn := ⟨_, rfl⟩
      rw [hwn] at hwp hwl
      rw [hwn]
      have HWN := Lib.hid hwn
      have hgl2 := HW2.out.lt
      clear hwn
      have hin : i < n1 := by have := HN1.out; omega
      have hs0 := HW2.out.pre.int (i := i) (by omega)
      have hf0 := HW2.out.pre.free i
      go_upto_region 18 with fail
      clear hs0 hf0
      have HW3 := Lib.hid (HW2.out.store i (U s i : Nat))
      have HP3 : Hid (Pre s (ps.set i (U s i : Nat)) (i + 1)) := Lib.hid (HR.out.2.1.step (by omega) _ rfl)
      obtain ⟨w3, hw3⟩ : ∃ w3, w2.setCell ⟨wA.heap.size, i, none⟩ (.int .i64 (U s i : Nat)) = w3 := ⟨_, rfl⟩
      rw [hw3] at HW3 ⊢
      clear hw3
      have hup := un_pos s i
      have hadv := adv s i HR.out.2.2.at_ hlt
      rw [HWN.out] at hadv
      have HADV := Lib.hid hadv
      clear hadv
      obtain ⟨ui, hui⟩ : ∃ ui, U s i = ui := ⟨_, rfl⟩
      obtain ⟨un1, hun1⟩ : ∃ un1, un s i = un1 := ⟨_, rfl⟩
      have hsum : ((ui : Int) + (un1 : Int)) = ((ui + un1 : Nat) : Int) := by omega
      obtain ⟨u1, hu1⟩ : ∃ u1, ui + un1 = u1 := ⟨_, rfl⟩
      rw [hu1] at hsum
      obtain ⟨i1, hi1⟩ : ∃ i1, i + 1 = i1 := ⟨_, rfl⟩
      have hsi1 : ((i : Int) + 1) = (i1 : Int) := by omega
      obtain ⟨e, he⟩ : ∃ e, i + wn = e := ⟨_, rfl⟩
      have hse : ((i : Int) + (wn : Int)) = (e : Int) := by omega
      have hub : u1 ≤ 2097154 := by omega
      have hez : e ≤ 1048576 := by omega
      have hie : i1 ≤ e := by omega
      rw [hui] at hUb
      rw [hun1] at hup
      rw [hui]
      have HU := Lib.hid (And.intro hui (And.intro hun1 (And.intro hu1 (And.intro hi1 he))))
      clear hui hu1 hi1 he hun1
      go_wp2_with (go_at_call 7; refine (units_any s i _).mono ?_; rintro e w' ⟨rfl, rfl⟩; rw [HU.out.2.1])
      go_loopg [15] (e - i1) (fun k a wr => GK s wA wA.heap.size i e u8 u9 k a wr)
      case atStart => exact ⟨i1, ps.set i (U s i : Nat), rfl, by rw [HU.out.2.2.2.1]; exact Nat.le_refl _, hie, Nat.le_refl _, HW3.out, by rw [← HU.out.2.2.2.1]; exact HP3.out⟩
      case round =>
        obtain ⟨j, ps', rfl, hj1, hj2, hjk, hws', hpre'⟩ := hrel
        have hpl' := hws'.plen
        have hgl' := hws'.lt
        rcases (show j = e ∨ j < e by omega) with rfl | hje
        · have HQ := Lib.hid (And.intro hws' hpre')
          have HBN : Hid (Bd s j) := Lib.hid (by have := HR.out.2.2.next hlt; rw [HWN.out, HU.out.2.2.2.2] at this; exact this)
          have hjw : j = i + wn := HU.out.2.2.2.2.symm
          have HE : Hid (U s j = u1 ∧ LS s j = (if tm s i = true then j else LS s i) ∧ T s j = (if tm s i = true then T s i ++ [(LS s i, i)] else T s i)) := Lib.hid (by
            obtain ⟨_, h2, h3, h4⟩ := HADV.out wn (by omega) (Nat.le_refl _)
            rw [HU.out.2.2.2.2] at h2 h3 h4
            have := HU.out.1
            have := HU.out.2.1
            have := HU.out.2.2.1
            exact ⟨by omega, h3, h4⟩)
          have hTl : (T s i).length ≤ i := T_len s i
          have HTL : Hid ((fsts (T s i)).length + 1 ≤ maxLen ∧ ((fsts (T s i)).length + 1) * 8 ≤ 140737488355328 ∧ (snds (T s i)).length + 1 ≤ maxLen ∧ ((snds (T s i)).length + 1) * 8 ≤ 140737488355328) := Lib.hid (by
            rw [fsts_length, snds_length]; unfold maxLen; omega)
          have hjk2 : s.size - j < s.size - i := by omega
          clear hws' hpre' hjw hTl
          rcases htm : tm s i with _ | _
          · have HT := Lib.hid htm
            clear htm
            go_wp2_with (go_at_call 8; refine (isterm_any s i _ hlt hz).mono ?_; rintro e w' ⟨rfl, rfl⟩; rw [HT.out])
            go_roundg (s.size - j)
            case measure => exact Nat.lt_of_lt_of_le hjk2 hk
            case rel =>
              obtain ⟨h1, h2, h3⟩ := HE.out
              rw [if_neg (by rw [HT.out]; simp)] at h2 h3
              exact ⟨j, ps', HBN.out, Nat.le_refl _, by rw [h1], by rw [h2], rfl, by rw [h3]; exact HQ.out.1, HQ.out.2⟩
          · have HT := Lib.hid htm
            clear htm
            go_wp2_with (first
              | (go_at_call 8; refine (isterm_any s i _ hlt hz).mono ?_; rintro e w' ⟨rfl, rfl⟩; rw [HT.out])
              | (at_builtin; refine wpList_push wr rfl (.tmp 83) (.tmp 85) 25 rfl (wA.heap.size + 1) 3 .i64 8 Try.underlying25 info3 u8 (fsts (T s i)) (LS s i : Int) rfl HQ.out.1.o8 rfl HTL.out.1 HTL.out.2.1 hgl' ?_; intro v8' w5 ho5 hg5 hn5; have HP5 := Lib.hid (HQ.out.1.push8 ho5 hg5); clear ho5 hg5 hn5)
              | (at_builtin; refine wpList_push w5 rfl (.tmp 87) (.tmp 89) 25 rfl (wA.heap.size + 1) 3 .i64 8 Try.underlying25 info3 u9 (snds (T s i)) (i : Int) rfl HP5.out.o9 rfl HTL.out.2.2.1 HTL.out.2.2.2 HP5.out.lt ?_; intro v9' w6 ho6 hg6 hn6; have HP6 := Lib.hid (HP5.out.push9 ho6 hg6); clear ho6 hg6 hn6))
            go_roundg (s.size - j)
            case measure => exact Nat.lt_of_lt_of_le hjk2 hk
            case rel =>
              obtain ⟨h1, h2, h3⟩ := HE.out
              rw [if_pos HT.out] at h2 h3
              exact ⟨j, ps', HBN.out, Nat.le_refl _, by rw [h1], by rw [h2], rfl, by rw [h3, fsts_snoc, snds_snoc]; exact HP6.out, HQ.out.2⟩
        · have hin2 : j < n1 := by have := HN1.out; omega
          have hs0 := hws'.pre.int (i := j) (by omega)
          have hf0 := hws'.pre.free j
          have hUj : (u1 : Int) = (U s j : Int) := by
            obtain ⟨d, rfl⟩ := Nat.exists_eq_add_of_le (show i ≤ j by omega)
            have h1 := (HADV.out d (by omega) (by have := HU.out.2.2.2.2; omega)).2.1
            have h2 := HU.out.1
            have h3 := HU.out.2.1
            have h4 := HU.out.2.2.1
            omega
          have HW4 := Lib.hid (hws'.store j (u1 : Int))
          have HP4 : Hid (Pre s (ps'.set j (u1 : Int)) (j + 1)) := Lib.hid (hpre'.step (by omega) _ hUj)
          obtain ⟨k', hk1, hk2⟩ : ∃ k', k' + 1 ≤ e - j ∧ e - (j + 1) ≤ k' := ⟨e - (j + 1), by omega, Nat.le_refl _⟩
          clear hws' hpre' hUj
          go_wp2_with fail
          go_roundg k'
          case measure => exact Nat.lt_of_lt_of_le (Nat.lt_of_succ_le hk1) hjk
          case rel => exact ⟨j + 1, ps'.set j (u1 : Int), by first | rfl | go_num, Nat.le_succ_of_le hj1, hje, hk2, HW4.out, HP4.out⟩
end Go.Proofs.Ythiehkgfmfpnfaa
