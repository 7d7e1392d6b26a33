/-
  A printable name: what printIdent and printNamespacedName write for it. No statement of the seat is proved here.
-/
import Derived.Test.YtfacjljamebalaaFmtPt
namespace Go.Proofs.YtfacjljamebalaaFmt
open Go.RowKit
set_option linter.unusedVariables false
set_option linter.unusedSimpArgs false

/-- letters and '_' -/
def lo (z : Int) : Bool := decide ((97 ≤ z ∧ z ≤ 122) ∨ (65 ≤ z ∧ z ≤ 90) ∨ z = 95)
/-- a name of printable ASCII, a letter or '_' first -/
structure Nm (t : ByteArray) : Prop where
  sz : 0 < t.size
  fst : lo (byteAt t 0) = true
  all : ∀ i, i < t.size → 32 ≤ byteAt t i ∧ byteAt t i ≤ 126
def esc1 (z : Int) : List Int := if nameCont z then [z] else [92, z]
def esc (t : ByteArray) : List Int := (byt t).flatMap esc1
theorem byt_at (t : ByteArray) (i : Nat) (h : i < t.size) : (byt t)[i]? = some (byteAt t i : Int) := by
  have hl : i < t.data.toList.length := by rw [Array.length_toList]; exact h
  unfold byt
  rw [List.getElem?_map, List.getElem?_eq_getElem hl, ← byteAt_get t i h]
  rfl
theorem byt_drop (t : ByteArray) (i : Nat) (h : i < t.size) : (byt t).drop i = (byteAt t i : Int) :: (byt t).drop (i + 1) := by
  have hb := byt_at t i h
  have hl : i < (byt t).length := by rw [byt_length]; exact h
  rw [List.getElem?_eq_getElem hl] at hb
  rw [List.drop_eq_getElem_cons hl, Option.some.inj hb]
theorem cp_nm {t : ByteArray} (h : Nm t) (i : Nat) (hi : i < t.size) : cp t i = byteAt t i ∧ wd t i = 1 := by
  have ha := (h.all i hi).2
  have hb := byteAt_get t i hi
  have := decode_ascii t i hi (by omega)
  unfold cp wd
  rw [this]
  exact ⟨by rw [hb], rfl⟩
theorem piece_nm {t : ByteArray} (h : Nm t) (i : Nat) (hi : i < t.size) : piece t true i = esc1 (byteAt t i) := by
  have ⟨h1, h2⟩ := cp_nm h i hi
  have ha := h.all i hi
  have e : Lib.encodeRuneZ (byteAt t i : Int) = [(byteAt t i : Int)] := Lib.encodeRuneZ_one (by omega) (by omega)
  unfold piece esc1 escAt
  rw [h1, e]
  cases nameCont (byteAt t i : Int) <;> simp
theorem slow_nm {t : ByteArray} (h : Nm t) : ∀ (k i : Nat), t.size - i ≤ k → slow t true k i = ((byt t).drop i).flatMap esc1
  | 0, i, hk => by
    have : (byt t).drop i = [] := List.drop_eq_nil_of_le (by rw [byt_length]; omega)
    rw [this]; rfl
  | k + 1, i, hk => by
    by_cases hi : i < t.size
    · rw [slow, if_pos hi, byt_drop t i hi, List.flatMap_cons, piece_nm h i hi, (cp_nm h i hi).2, slow_nm h k (i + 1) (by omega)]
    · have : (byt t).drop i = [] := List.drop_eq_nil_of_le (by rw [byt_length]; omega)
      rw [this, slow_end _ _ _ _ hi]; rfl
theorem flat_ok : ∀ (l : List Int), (∀ z ∈ l, nameCont z = true) → l.flatMap esc1 = l
  | [], _ => rfl
  | z :: l, h => by
    rw [List.flatMap_cons, flat_ok l (fun y hy => h y (.tail _ hy)), esc1, if_pos (h z (.head _))]; rfl
theorem fast_nm {t : ByteArray} (h : ∀ i, i < t.size → okAt t i = true) : esc t = byt t := by
  refine flat_ok _ (fun z hz => ?_)
  obtain ⟨i, hi, rfl⟩ := List.getElem_of_mem hz
  have hi' : i < t.size := by rw [byt_length] at hi; exact hi
  have := byt_at t i hi'
  rw [List.getElem?_eq_getElem hi] at this
  rw [Option.some.inj this]
  have := h i hi'
  unfold okAt at this
  simp only [Bool.and_eq_true] at this
  exact this.2
theorem lo_ns (z : Int) (h : lo z = true) : nameStart z = true := by
  unfold lo at h; unfold nameStart
  simp only [decide_eq_true_eq] at *
  omega
theorem ws_any {t : ByteArray} (h : Nm t) (w : World) : Calls Tryf.prog 24 #[.string t] w fun e w' => e = .returned (.bool true) ∧ w' = w := by
  have hb := byteAt_get t 0 h.sz
  have hl := h.all 0 h.sz
  have hd := Tryf.utf8_DecodeRuneInString_ascii t (t[0]'h.sz) w (by
    have : 0 < t.data.toList.length := by rw [Array.length_toList]; exact h.sz
    rw [List.getElem?_eq_getElem this]; rfl) (by omega)
  rw [hb] at hd
  have hn := ns_any (byteAt t 0) w
  rw [lo_ns _ h.fst] at hn
  have HD := Lib.hid (And.intro hd hn)
  obtain ⟨c, hc⟩ : ∃ c : Nat, byteAt t 0 = c := ⟨_, rfl⟩
  rw [hc] at hl
  have tf : ((c : Int) == 65533) = false := beq_eq_false_iff_ne.2 (by omega)
  rw [hc] at HD
  clear hd hn hb hc
  go_enter Tryf.func24, Tryf.ntmps24
  go_wp2_with (first | (go_at_call 33; refine HD.out.1.mono ?_; rintro e w1 ⟨rfl, rfl⟩) | (go_at_call 34; refine HD.out.2.mono ?_; rintro e w1 ⟨rfl, rfl⟩))
  go_ret
  exact ⟨rfl, rfl⟩
theorem nohex_nm {t : ByteArray} (h : Nm t) (a : Bool) : NoHex t a true := by
  refine ⟨fun i hi => ?_, fun h => by cases h⟩
  have := h.all i hi
  rw [(cp_nm h i hi).1]
  refine ⟨by omega, by omega, by omega, by omega, fun _ => by omega⟩
/-- the first place that is not in order, or none -/
theorem first_bad (t : ByteArray) : ∀ n, (∀ i, i < n → okAt t i = true) ∨ ∃ j, j < n ∧ (∀ i, i < j → okAt t i = true) ∧ okAt t j = false
  | 0 => .inl (fun i h => by omega)
  | n + 1 => by
    rcases first_bad t n with h | ⟨j, h1, h2, h3⟩
    · cases ho : okAt t n with
      | true => exact .inl (fun i hi => (show i < n ∨ i = n by omega).elim (fun h' => h i h') (fun e => by rw [e]; exact ho))
      | false => exact .inr ⟨n, by omega, h, ho⟩
    · exact .inr ⟨j, by omega, h2, h3⟩
theorem pi_name (B p : Nat) (l : Int) (m a : Bool) (zs : List Int) (s e : Int) (t : ByteArray) (ws : Int) (w : World) (hp : Pr w B p l m a zs s e) (hB : B ≤ w.heap.size) (ht : t.size ≤ 1048576) (hl : zs.length + 8388608 ≤ 140737488355328) (hn : Nm t) :
    Calls Tryf.prog 19 #[.pointer (some ⟨p, 0, none⟩), .string t, .int .u8 0, .int .u8 ws] w fun en w' => en = .returned (.tuple #[]) ∧ Pr w' B p l m a (zs ++ esc t) s e ∧ Below B w w' ∧ Keep w w' p := by
  have hW : Calls Tryf.prog 24 #[.string t] w fun e w' => e = .returned (.bool true) ∧ Below w.heap.size w w' := (ws_any hn w).mono (by rintro e w' ⟨h, rfl⟩; exact ⟨h, Below.refl _ _⟩)
  rcases first_bad t t.size with h | ⟨j, h1, h2, h3⟩
  · rw [fast_nm h]
    exact pi_fast B p l m a zs s e t ws w hp hB ht hl hW h
  · have e1 : esc t = slow t true t.size 0 := by rw [slow_nm hn t.size 0 (by omega), List.drop_zero]; rfl
    rw [e1]
    exact pi_slow1 B p l m a zs s e t ws w hp hB ht hl hW (nohex_nm hn a) j h1 h2 h3
end Go.Proofs.YtfacjljamebalaaFmt
