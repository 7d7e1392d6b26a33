/-
  printIdent in its normal mode, where no hexadecimal escape is due: what it appends. No statement of the seat is proved here.
-/
import Derived.Test.YtmfhoeihdikklaaFmtPe
import Derived.Test.YtmfhoeihdikklaaFmtNc
import Derived.Test.YtmfhoeihdikklaaFmtDg
import Derived.Test.YtmfhoeihdikklaaFmtIter
import Derived.Test.YtmfhoeihdikklaaFmtScj
import Derived.LoopTactic
import Derived.Deep.LoopGhost
import Derived.Deep.DeepCutAuto
namespace Go.Proofs.YtmfhoeihdikklaaFmt
open Go.RowKit
set_option linter.unusedVariables false
set_option linter.unusedSimpArgs false

theorem pr7 (l : Int) (m a : Bool) (lnv : Option Nat) (syv : Option Addr × Nat) (ao : Option Addr) (n c : Nat) (s e : Int) : (prCells l m a lnv syv (.slice ao n c) s e)[7]? = some (.bool a) := by kernel_rfl
theorem pr9 (l : Int) (m a : Bool) (lnv : Option Nat) (syv : Option Addr × Nat) (ao : Option Addr) (n c : Nat) (s e : Int) : (prCells l m a lnv syv (.slice ao n c) s e)[9]? = some (.bool false) := by kernel_rfl
/-- a byte that needs no escape -/
def okAt (t : ByteArray) (i : Nat) : Bool := decide (byteAt t i < 128) && nameCont (byteAt t i)
set_option maxRecDepth 100000 in
theorem pi_fast (B p : Nat) (l : Int) (m a : Bool) (lnv : Option Nat) (syv : Option Addr × Nat) (zs : List Int) (s e : Int) (t : ByteArray) (ws : Int) (w : World) (hp : Pr w B p l m a lnv syv zs s e) (hB : B ≤ w.heap.size) (ht : t.size ≤ 1048576) (hl : zs.length + 8388608 ≤ 140737488355328)
    (hW : Calls Tryf.prog 25 #[.string t] w fun e w' => e = .returned (.bool true) ∧ Below w.heap.size w w') (hok : ∀ i, i < t.size → okAt t i = true) :
    Calls Tryf.prog 21 #[.pointer (some ⟨p, 0, none⟩), .string t, .int .u8 0, .int .u8 ws] w fun en w' => en = .returned (.tuple #[]) ∧ Pr w' B p l m a lnv syv (zs ++ byt t) s e ∧ Below B w w' ∧ Keep w w' p := by
  have HP := Lib.hid (And.intro hp (And.intro hl hok))
  clear hp hl hok
  go_enter Tryf.func21, Tryf.ntmps21
  go_wp2_with (go_at_call 25; refine hW.mono ?_; rintro e w1 ⟨rfl, hb1⟩)
  clear hW
  have hs1 := hb1.size
  obtain ⟨ao, c, hb, hown, hne, hBp⟩ := HP.out.1.below hb1
  have c15 := (hb.cell 15).trans (pr15 _ _ _ _ _ _ _ _ _ _)
  have hlt := hb.lt
  have HQ := Lib.hid (And.intro hb (And.intro hown (And.intro hne (And.intro hb1 hBp))))
  clear hb hown hne hb1
  refine wp_scope_to 0 rfl ?_
  go_wp2_with fail
  go_loopw [11] (fun x wr => ∃ k : Nat, k ≤ t.size ∧ x = .int .i64 k ∧ wr = w1) (fun x _ => t.size - (intOf x).toNat)
  case atStart => exact ⟨0, Nat.zero_le _, rfl, rfl⟩
  case round =>
    obtain ⟨k, hk, rfl, rfl⟩ := hrel
    rcases (show k = t.size ∨ k < t.size by omega) with rfl | hlt
    · go_wp2_with (at_builtin; refine wpList_push_string wr rfl (.tmp 102) (.tmp 103) 22 9 rfl B 5 Tryf.underlying22 Tryf.underlying9 u8_info _ zs rfl HQ.out.2.1 t rfl (by have := HP.out.2.1; omega) (Nat.le_trans hB hs1) ?_; intro v' w2 ho1 hg1; obtain ⟨ao', cap', rfl, hin', hc', hf'⟩ := ho1.form; have hb1 := HQ.out.1.gb hg1.1 (fun h => HQ.out.2.2.1 h.symm); have c15' := (hb1.cell 15).trans (pr15 _ _ _ _ _ _ _ _ _ _); have f15' := hb1.free 15; have hlt' := hb1.lt; have HO := Lib.hid (And.intro hb1 (And.intro ho1 hg1)); clear hb1 ho1 hg1 hin' hc' hf')
      refine jump_ret ?_
      refine then_ret (bodyPost_ret (results_none rfl _ _ _) rfl ?_)
      have hne' := gr_ne HO.out.2.2 HQ.out.2.2.1 hlt
      refine ⟨rfl, pr_push HO.out.1 HO.out.2.1 hne' hBp (by simp), ?_, ?_⟩
      · exact (HO.out.2.2.below (HQ.out.2.2.2.1.mono hB) (Nat.le_trans hB hs1) (fun g h => (HQ.out.2.1.lt g h).1)).setCell hBp _
      · exact (Keep.below HQ.out.2.2.2.1).trans (keep_set (keep_gr HQ.out.2.1 HO.out.2.2) 15 _)
    · have hkk := HP.out.2.2 k hlt
      unfold okAt at hkk
      simp only [Bool.and_eq_true, decide_eq_true_eq] at hkk
      have hby := byteAt_get t k hlt
      have h128 : decide ((128 : Int) ≤ ((t[k]'hlt).toNat : Int)) = false := by simp; omega
      have HN : Hid (nameCont ((t[k]'hlt).toNat : Int) = true) := Lib.hid (by rw [hby]; exact hkk.2)
      have hwr : wrap32 ((t[k]'hlt).toNat : Int) = ((t[k]'hlt).toNat : Int) := by have := (t[k]'hlt).toNat_lt; unfold wrap32; omega
      clear hby hkk
      go_wp2_with (go_at_call 26; refine (nc_any _ _).mono ?_; rintro e w3 ⟨rfl, rfl⟩; rw [HN.out])
      go_roundw
      case rel => exact ⟨k + 1, by omega, by go_num, trivial⟩
      case measure => simp [intOf]; omega
/-- the code point at i -/
def cp (t : ByteArray) (i : Nat) : Int := ((Utf8.decode t i).1 : Int)
def wd (t : ByteArray) (i : Nat) : Nat := (Utf8.decode t i).2
def escAt (t : ByteArray) (b : Bool) (i : Nat) : Bool := !nameCont (cp t i) || (decide (i = 0) && !b)
def piece (t : ByteArray) (b : Bool) (i : Nat) : List Int := (if escAt t b i then [92] else []) ++ Lib.encodeRuneZ (cp t i)
/-- what the slow path appends from i on -/
def slow (t : ByteArray) (b : Bool) : Nat → Nat → List Int
  | 0, _ => []
  | k + 1, i => if i < t.size then piece t b i ++ slow t b k (i + wd t i) else []
theorem slow_end (t : ByteArray) (b : Bool) (k i : Nat) (h : ¬ i < t.size) : slow t b k i = [] := by
  cases k with
  | zero => rfl
  | succ k => rw [slow, if_neg h]
theorem piece_len (t : ByteArray) (b : Bool) (i : Nat) : (piece t b i).length ≤ 5 := by
  have := (rune_len (cp t i)).2
  unfold piece
  split <;> simp <;> omega
/-- no hexadecimal escape is due -/
def NoHex (t : ByteArray) (a b : Bool) : Prop := (∀ i, i < t.size → cp t i ≠ 13 ∧ cp t i ≠ 10 ∧ cp t i ≠ 12 ∧ cp t i ≠ 65279 ∧ (a = true → cp t i < 128)) ∧ (b = false → 0 < t.size → ¬ hexd (cp t 0))
theorem cp_range (t : ByteArray) (i : Nat) : 0 ≤ cp t i ∧ cp t i ≤ 2147483647 := by
  have := decode_le t i
  unfold cp; omega
theorem hexd_nc (c : Int) (h : nameCont c = false) : ¬ hexd c := by
  unfold nameCont nameStart at h
  unfold hexd
  simp only [Bool.or_eq_false_iff, decide_eq_false_iff_not] at h
  omega
theorem esc_hex (t : ByteArray) (a b : Bool) (i : Nat) (hi : i < t.size) (h : NoHex t a b) (he : escAt t b i = true) : ¬ hexd (cp t i) := by
  unfold escAt at he
  cases hn : nameCont (cp t i) with
  | false => exact hexd_nc _ hn
  | true =>
    rw [hn] at he
    simp at he
    obtain ⟨rfl, rfl⟩ := he
    exact h.2 rfl hi
theorem runeLen_le (c : Int) : -1 ≤ (Lib.runeLen c : Int) ∧ (Lib.runeLen c : Int) ≤ 4 := by
  unfold Lib.runeLen
  repeat (split; · omega)
  omega
theorem It.keep {w w' : World} {r p : Nat} {t : ByteArray} {i : Nat} (h : It w r t i) (hk : Keep w w' p) (hne : r ≠ p) : It w' r t i := hk r _ h (nb_iter _ _) hne
theorem Pr.next {w w' : World} {B p r : Nat} {l : Int} {m a : Bool} {lnv : Option Nat} {syv : Option Addr × Nat} {zs : List Int} {s e : Int} {t : ByteArray} {i : Nat} (h : Pr w B p l m a lnv syv zs s e) (hit : It w r t i) (hg : w.grownBy w' (some r)) (hne : r ≠ p) : Pr w' B p l m a lnv syv zs s e := by
  obtain ⟨ao, c, h1, h2, h3, h4⟩ := h
  refine ⟨ao, c, h1.gb hg (fun e => hne (Option.some.inj e).symm), h2.gb hg (.inr fun e => ?_), h3, h4⟩
  have hx : w.heap[r]? = some (.stringIter t i) := hit
  rcases h2.2 with ⟨q, _⟩ | ⟨g, cap, cur, q, _, hgg, _⟩
  · rw [q] at e; cases e
  · rw [q] at e
    cases e
    rw [hx] at hgg; cases hgg
structure Gi (t : ByteArray) (b : Bool) (B p : Nat) (l : Int) (m a : Bool) (lnv : Option Nat) (syv : Option Addr × Nat) (zs : List Int) (s e : Int) (w : World) (r k i : Nat) (ys : List Int) (wr : World) : Prop where
  out : ys ++ slow t b k i = slow t b t.size 0
  len : ys.length ≤ 5 * i
  it : It wr r t i
  pr : Pr wr B p l m a lnv syv (zs ++ ys) s e
  bel : Below B w wr
  kn : Kn w wr p r
theorem Gi.next {t : ByteArray} {b : Bool} {B p : Nat} {l : Int} {m a : Bool} {lnv : Option Nat} {syv : Option Addr × Nat} {zs : List Int} {s e : Int} {w : World} {r k i : Nat} {ys : List Int} {wr w2 w3 : World} (h : Gi t b B p l m a lnv syv zs s e w r k i ys wr) (hi : i < t.size) (hk : t.size - i ≤ k) (hr : r ≠ p) (hBr : B ≤ r)
    (h2 : It w2 r t (i + (Utf8.decode t i).2)) (hg : wr.grownBy w2 (some r)) (hp : Pr w3 B p l m a lnv syv (zs ++ (ys ++ piece t b i)) s e) (hb : Below B w2 w3) (hkp : Keep w2 w3 p) : Gi t b B p l m a lnv syv zs s e w r (k - 1) (i + wd t i) (ys ++ piece t b i) w3 := by
  obtain ⟨k', rfl⟩ : ∃ k', k = k' + 1 := ⟨k - 1, by omega⟩
  have hw := (width_le t i hi).1
  refine ⟨?_, ?_, h2.keep hkp hr, hp, (h.bel.grown hg (Nat.le_trans hBr (Nat.le_of_lt h.it.lt)) (fun g e => by cases e; exact hBr)).trans hb, h.kn.trans ?_⟩
  · have := h.out
    rw [slow, if_pos hi, ← List.append_assoc] at this
    exact this
  · have := piece_len t b i
    have := h.len
    unfold wd
    rw [List.length_append]; omega
  · intro j o h1 hn h3 h4
    exact hkp j o (gb_blk hg h1 (fun e => h4 (Option.some.inj e))) hn h3
end Go.Proofs.YtmfhoeihdikklaaFmt
