/-
  The units of a plain text: one a byte, each CR and each CR LF as one LF. Plain: no program.
-/
import Derived.Test.YtiaiphoeopdlaaaFmtDg
namespace Go.Proofs.YtiaiphoeopdlaaaFmt
set_option linter.unusedVariables false
def nrm : List UInt8 → List Int
  | 13 :: 10 :: l => 10 :: nrm l
  | 13 :: l => 10 :: nrm l
  | b :: l => (b.toNat : Int) :: nrm l
  | [] => []
theorem nrm_crlf (l : List UInt8) : nrm (13 :: 10 :: l) = 10 :: nrm l := by rw [nrm]
theorem nrm_cr {l : List UInt8} (h : l.head? ≠ some 10) : nrm (13 :: l) = 10 :: nrm l := by
  match l with
  | [] => rfl
  | b :: m =>
    by_cases e : b = 10
    · subst e; simp at h
    · rw [nrm]
      intro l' c
      cases c; exact e rfl
theorem nrm_other {b : UInt8} (l : List UInt8) (h : b ≠ 13) : nrm (b :: l) = (b.toNat : Int) :: nrm l := by
  rw [nrm]
  · intro l' c _; exact h c
  · intro c; exact h c
theorem size_lst (s : ByteArray) : s.data.toList.length = s.size := by simp
theorem drop_at (T : ByteArray) (i : Nat) (h : i < T.size) : ∃ b : UInt8, T.data.toList.drop i = b :: T.data.toList.drop (i + 1) ∧ b.toNat = byteAt T i := by
  have hl : i < T.data.toList.length := by rw [size_lst]; exact h
  refine ⟨T.data.toList[i], (List.drop_eq_getElem_cons hl), ?_⟩
  rw [← byteAt_get T i h]; rfl
theorem drop_head (T : ByteArray) (i : Nat) (h : i < T.size) : ∃ b : UInt8, (T.data.toList.drop i).head? = some b ∧ b.toNat = byteAt T i := by
  obtain ⟨b, e, hb⟩ := drop_at T i h
  exact ⟨b, by rw [e]; rfl, hb⟩
def NR (T : ByteArray) (zs : List Int) (i : Nat) : Prop := zs ++ nrm (T.data.toList.drop i) = nrm T.data.toList
theorem NR.start (T : ByteArray) : NR T [] 0 := by simp [NR]
theorem NR.stop {T : ByteArray} {zs : List Int} {i : Nat} (h : NR T zs i) (hi : T.size ≤ i) : zs = nrm T.data.toList := by
  unfold NR at h
  rw [List.drop_eq_nil_of_le (by rw [size_lst]; exact hi)] at h
  simpa [nrm] using h
theorem u8_eq {b : UInt8} {n : Nat} (hn : n < 256) (h : b.toNat = n) : b = UInt8.ofNat n := by
  apply UInt8.toNat_inj.1
  rw [h]; show n = n % 256; omega
theorem NR.other {T : ByteArray} {zs : List Int} {i c : Nat} (h : NR T zs i) (hi : i < T.size) (hb : byteAt T i = c) (hc : c ≠ 13) : NR T (zs ++ [(c : Int)]) (i + 1) := by
  obtain ⟨b, e, hbb⟩ := drop_at T i hi
  unfold NR at h ⊢
  rw [e, nrm_other _ (fun x => by subst x; rw [hb] at hbb; exact hc hbb.symm)] at h
  rw [← h, hbb, hb]; simp
theorem NR.cr {T : ByteArray} {zs : List Int} {i : Nat} (h : NR T zs i) (hi : i < T.size) (hb : byteAt T i = 13) (hn : i + 1 = T.size ∨ byteAt T (i + 1) ≠ 10) : NR T (zs ++ [10]) (i + 1) := by
  obtain ⟨b, e, hbb⟩ := drop_at T i hi
  have : b = 13 := u8_eq (n := 13) (by decide) (by rw [hbb, hb])
  subst this
  unfold NR at h ⊢
  rw [e, nrm_cr] at h
  · rw [← h]; simp
  · by_cases hl : i + 1 < T.size
    · obtain ⟨b2, e2, h2⟩ := drop_head T (i + 1) hl
      rw [e2]
      intro c
      cases c
      rcases hn with hn | hn
      · omega
      · exact hn h2.symm
    · rw [List.drop_eq_nil_of_le (by rw [size_lst]; omega)]; simp
theorem NR.crlf {T : ByteArray} {zs : List Int} {i : Nat} (h : NR T zs i) (hi : i + 1 < T.size) (hb : byteAt T i = 13) (hn : byteAt T (i + 1) = 10) : NR T (zs ++ [10]) (i + 1 + 1) := by
  obtain ⟨b, e, hbb⟩ := drop_at T i (by omega)
  obtain ⟨b2, e2, h2⟩ := drop_at T (i + 1) hi
  have : b = 13 := u8_eq (n := 13) (by decide) (by rw [hbb, hb])
  subst this
  have : b2 = 10 := u8_eq (n := 10) (by decide) (by rw [h2, hn])
  subst this
  unfold NR at h ⊢
  rw [e, e2, nrm_crlf] at h
  rw [← h]; simp
end Go.Proofs.YtiaiphoeopdlaaaFmt
