/-
  The law's walk: the printed name, its escapes removed, is the name. No statement of the seat is proved here.
-/
import Derived.Test.YtfacjljamebalaaFmtHl
import Derived.Lib.IndexBytes
import Derived.Lib.SlBytesRow
import Derived.Laws.BytesArg
import Derived.OwnWalk
namespace Go.Proofs.YtfacjljamebalaaFmt
open Go.RowKit
set_option linter.unusedVariables false
set_option linter.unusedSimpArgs false
theorem size_list' (s : ByteArray) : s.data.toList.length = s.size := Array.length_toList
/-- a byte slice of the call's own, turned into a string -/
theorem conv_own {w : World} {B : Nat} {ao : Option Addr} {n c : Nat} {O : ByteArray} (h : Own .u8 5 w B (.slice ao n c) (byt O)) : (convert 30 9 (.slice ao n c)).run Tryf.prog w = .ok (.string O) w := by
  obtain ⟨ao', cap', e, hin, _, hf⟩ := h.form
  cases e
  rw [byt_length]
  rcases hf with ⟨rfl, hz, _⟩ | ⟨g, rfl, _, _⟩
  · have hs : O.size = 0 := by rw [← byt_length, hz]; rfl
    have : O = ByteArray.empty := by
      apply ByteArray.ext
      exact (Array.eq_empty_of_size_eq_zero hs).trans rfl
    rw [this]
    exact run_convert_bytes_nil w 30 5 Tryf.underlying30 Tryf.underlying5 _ _ 9 Tryf.underlying9
  · refine Lib.run_convert_whole (P := Tryf.prog) w 30 5 9 Tryf.underlying30 Tryf.underlying5 Tryf.underlying9 g 0 O ?_ c
    intro i hi
    rcases hin with h | ⟨b, off, hx, _, hc⟩
    · have := byt_length O; rw [h] at this; simp at this; omega
    · cases hx
      rw [hc i (by rw [byt_length]; exact hi)]
      have : nth (byt O) i = ((O[i]'hi).toNat : Int) := by
        have hl : i < O.data.toList.length := by rw [size_list']; exact hi
        rw [nth_get _ _ (by rw [byt_length]; exact hi)]
        simp [byt]; rfl
      rw [this]
/-- the text of a list of bytes -/
def strOf (l : List Int) : ByteArray := ⟨(l.map fun z => UInt8.ofNat z.toNat).toArray⟩
theorem byt_strOf (l : List Int) (h : ∀ z ∈ l, 0 ≤ z ∧ z < 256) : byt (strOf l) = l := by
  simp only [byt, strOf, List.map_map]
  conv => rhs; rw [← List.map_id l]
  refine List.map_congr_left (fun z hz => ?_)
  have := h z hz
  simp
  omega
theorem byt_lt (t : ByteArray) : ∀ z ∈ byt t, 0 ≤ z ∧ z < 256 := by
  intro z hz
  simp only [byt, List.mem_map] at hz
  obtain ⟨b, _, rfl⟩ := hz
  have := b.toNat_lt
  omega
theorem esc_lt (t : ByteArray) : ∀ z ∈ esc t, 0 ≤ z ∧ z < 256 := by
  intro z hz
  unfold esc at hz
  obtain ⟨y, hy, hz⟩ := List.mem_flatMap.1 hz
  have := byt_lt t y hy
  unfold esc1 at hz
  split at hz
  · simp at hz; omega
  · simp at hz; omega
theorem drop_cons {l : List Int} {i : Nat} {z : Int} {r : List Int} (h : l.drop i = z :: r) : i < l.length ∧ l[i]? = some z ∧ l.drop (i + 1) = r := by
  have hl : i < l.length := by
    rcases Nat.lt_or_ge i l.length with h' | h'
    · exact h'
    · rw [List.drop_eq_nil_of_le h'] at h; cases h
  rw [List.drop_eq_getElem_cons hl] at h
  injection h with h1 h2
  exact ⟨hl, by rw [List.getElem?_eq_getElem hl, h1], h2⟩
theorem byt_get {D : ByteArray} {i : Nat} {z : Nat} (h : (byt D)[i]? = some (z : Int)) : ∃ hi : i < D.size, (D[i]'hi).toNat = z := by
  have hi : i < D.size := by
    rcases Nat.lt_or_ge i D.size with h' | h'
    · exact h'
    · rw [List.getElem?_eq_none (by rw [byt_length]; exact h')] at h; cases h
  refine ⟨hi, ?_⟩
  rw [byt_at D i hi] at h
  rw [byteAt_get D i hi]
  have := Option.some.inj h
  omega
theorem byt_ext (D : ByteArray) (k : Nat) : byt (D.extract k D.size) = (byt D).drop k := by
  simp only [byt, Lib.extract_data, List.map_drop, List.map_take]
  rw [List.take_of_length_le]
  simp
/-- the state of the law's loop: i bytes of D read, j bytes of the name found -/
def Lp (t D : ByteArray) (i : Nat) (v : Value) (B : Nat) (w0 wr : World) : Prop :=
  i ≤ D.size ∧ ∃ j, j ≤ t.size ∧ (byt D).drop i = ((byt t).drop j).flatMap esc1 ∧ Own .u8 5 wr B v ((byt t).take j) ∧ Below B w0 wr
theorem take_succ (t : ByteArray) (j : Nat) (h : j < t.size) : (byt t).take (j + 1) = (byt t).take j ++ [(byteAt t j : Int)] := by
  have := byt_at t j h
  rw [List.take_add_one, this]; rfl
theorem Lp.step {t D : ByteArray} (hn : Nm t) {i : Nat} {v : Value} {B : Nat} {w0 wr : World} (h : Lp t D i v B w0 wr) :
    (i = D.size ∧ Own .u8 5 wr B v (byt t) ∧ Below B w0 wr) ∨
    (∃ (j z : Nat) (hi : i < D.size), (D[i]'hi).toNat = z ∧ z < 256 ∧ j < t.size ∧ ((z : Int) == 92) = false ∧ nb z = true ∧ Own .u8 5 wr B v ((byt t).take j) ∧ Below B w0 wr ∧
      ∀ v' w', Own .u8 5 w' B v' ((byt t).take j ++ [(z : Int)]) → Below B w0 w' → Lp t D (i + 1) v' B w0 w') ∨
    (∃ (j z : Nat) (hi : i < D.size) (hi' : i + 1 < D.size), (D[i]'hi).toNat = 92 ∧ (D[i + 1]'hi').toNat = z ∧ z < 256 ∧ j < t.size ∧ nb z = false ∧ Own .u8 5 wr B v ((byt t).take j) ∧ Below B w0 wr ∧
      ∀ v' w', Own .u8 5 w' B v' ((byt t).take j ++ [(z : Int)]) → Below B w0 w' → Lp t D (i + 2) v' B w0 w') := by
  obtain ⟨hiD, j, hj, hd, ho, hb⟩ := h
  rcases (show j = t.size ∨ j < t.size by omega) with rfl | hlt
  · left
    have e0 : (byt t).drop t.size = [] := List.drop_eq_nil_of_le (by rw [byt_length]; omega)
    rw [e0] at hd
    have e1 : (byt t).take t.size = byt t := List.take_of_length_le (by rw [byt_length]; omega)
    rw [e1] at ho
    refine ⟨?_, ho, hb⟩
    have := List.drop_eq_nil_iff.1 hd
    rw [byt_length] at this
    omega
  · right
    have hz := hn.all j hlt
    rw [byt_drop t j hlt, List.flatMap_cons] at hd
    have hnb := nb_nc (byteAt t j) (by omega) (by omega)
    cases hc : nameCont (byteAt t j : Int)
    · right
      rw [esc1, hc] at hd
      obtain ⟨h1, h2, h3⟩ := drop_cons hd
      obtain ⟨h4, h5, h6⟩ := drop_cons h3
      obtain ⟨hi, e1⟩ := byt_get (z := 92) h2
      obtain ⟨hi', e2⟩ := byt_get h5
      refine ⟨j, _, hi, hi', e1, e2, by omega, hlt, by rw [hnb, hc], ho, hb, fun v' w' ho' hb' => ⟨by omega, j + 1, by omega, h6, by rw [take_succ t j hlt]; exact ho', hb'⟩⟩
    · left
      rw [esc1, hc] at hd
      obtain ⟨h1, h2, h3⟩ := drop_cons hd
      obtain ⟨hi, e1⟩ := byt_get h2
      refine ⟨j, _, hi, e1, by omega, hlt, ?_, by rw [hnb, hc], ho, hb, fun v' w' ho' hb' => ⟨by omega, j + 1, by omega, h3, by rw [take_succ t j hlt]; exact ho', hb'⟩⟩
      refine beq_eq_false_iff_ne.2 (fun e => ?_)
      rw [e] at hc
      revert hc
      decide
end Go.Proofs.YtfacjljamebalaaFmt
