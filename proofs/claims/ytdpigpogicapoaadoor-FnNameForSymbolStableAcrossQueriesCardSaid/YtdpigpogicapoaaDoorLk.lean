/-
  zzLinkedSymbols: the symbol table of the law, with its links; the roots of its symbols. No statement of the seat is proved here.
-/
import Derived.Test.YtdpigpogicapoaaDoorCl
import Derived.Laws.BitsLemmas
namespace Go.Proofs.YtdpigpogicapoaaDoor
open Go.RowKit
set_option linter.unusedVariables false
set_option linter.unusedSimpArgs false

theorem i32_small (n : Nat) (h : n ≤ 4096) : IntKind.i32.wrap (n : Int) = n := by rw [IntKind.wrap_i32]; omega
theorem u32_small (n : Nat) (h : n ≤ 4096) : IntKind.u32.wrap (n : Int) = n := by rw [IntKind.wrap_u32]; omega
/-- the link cells of symbol i say z (negative: none) -/
def Lz (cs : Array Value) (i : Nat) (z : Int) : Prop :=
  (z < 0 ∧ cs[i * 10 + 2]? = some (.int .u32 4294967295) ∧ cs[i * 10 + 3]? = some (.int .u32 4294967295)) ∨
  (0 ≤ z ∧ cs[i * 10 + 2]? = some (.int .u32 0) ∧ cs[i * 10 + 3]? = some (.int .u32 z))
/-- the table, the first k links laid -/
structure Lp (w : World) (S n k : Nat) (ts : List ByteArray) (zs : List Int) : Prop where
  out : ∃ cs, Blk w S 48 cs ∧ cs.size = 10 * n ∧ ∀ i, i < n → cs[i * 10 + 1]? = some (.string (tth ts i)) ∧ Lz cs i (if i < k then nth zs i else -1)
theorem Lp.gb {w w' : World} {S n k : Nat} {ts : List ByteArray} {zs : List Int} {r : Option Nat} (h : Lp w S n k ts zs) (hg : w.grownBy w' r) (hS : some S ≠ r) : Lp w' S n k ts zs := by
  obtain ⟨cs, h1, h2⟩ := h.out
  exact ⟨cs, h1.gb hg hS, h2⟩
theorem Lp.drew {w : World} {S n k : Nat} {ts : List ByteArray} {zs : List Int} (h : Lp w S n k ts zs) : Lp w.drew S n k ts zs := ⟨h.out⟩
theorem Ps.lp {w : World} {S n : Nat} {ts : List ByteArray} {zs : List Int} (h : Ps w S n n ts) : Lp w S n 0 ts zs := by
  obtain ⟨cs, h1, h2, h3⟩ := h.out
  exact ⟨cs, h1, h2, fun i hi => ⟨(h3 i hi).1, by rw [if_neg (by omega)]; exact .inl ⟨by decide, (h3 i hi).2⟩⟩⟩
theorem Lp.skip {w : World} {S n k : Nat} {ts : List ByteArray} {zs : List Int} (h : Lp w S n k ts zs) (hz : nth zs k < 0) : Lp w S n (k + 1) ts zs := by
  obtain ⟨cs, h1, h2, h3⟩ := h.out
  refine ⟨cs, h1, h2, fun i hi => ⟨(h3 i hi).1, ?_⟩⟩
  have h4 := (h3 i hi).2
  by_cases e : i = k
  · subst e
    rw [if_neg (by omega)] at h4
    rw [if_pos (by omega)]
    rcases h4 with ⟨_, h5⟩ | ⟨h5, _⟩
    · exact .inl ⟨hz, h5⟩
    · omega
  · by_cases e2 : i < k
    · rw [if_pos e2] at h4; rw [if_pos (by omega)]; exact h4
    · rw [if_neg e2] at h4; rw [if_neg (by omega)]; exact h4
theorem Lp.put {w : World} {S n k : Nat} {ts : List ByteArray} {zs : List Int} (h : Lp w S n k ts zs) (hk : k < n) (hz : 0 ≤ nth zs k) :
    Lp ((w.setCell ⟨S, k * 10 + 2, none⟩ (.int .u32 0)).setCell ⟨S, k * 10 + 2 + 1, none⟩ (.int .u32 (nth zs k))) S n (k + 1) ts zs := by
  obtain ⟨cs, h1, h2, h3⟩ := h.out
  refine ⟨_, (h1.set _ _).set _ _, by simp [h2], fun i hi => ⟨?_, ?_⟩⟩
  · rw [Array.getElem?_setIfInBounds_ne (by omega), Array.getElem?_setIfInBounds_ne (by omega)]
    exact (h3 i hi).1
  · have h4 := (h3 i hi).2
    by_cases e : i = k
    · subst e
      rw [if_pos (by omega)]
      refine .inr ⟨hz, ?_, ?_⟩
      · rw [Array.getElem?_setIfInBounds_ne (by omega), Array.getElem?_setIfInBounds_self_of_lt (by omega)]
      · rw [Array.getElem?_setIfInBounds_self_of_lt (by simp; omega)]
    · unfold Lz at h4 ⊢
      rw [Array.getElem?_setIfInBounds_ne (by omega), Array.getElem?_setIfInBounds_ne (by omega), Array.getElem?_setIfInBounds_ne (by omega), Array.getElem?_setIfInBounds_ne (by omega)]
      by_cases e2 : i < k
      · rw [if_pos e2] at h4; rw [if_pos (by omega)]; exact h4
      · rw [if_neg e2] at h4; rw [if_neg (by omega)]; exact h4

set_option maxHeartbeats 1000000 in
set_option maxRecDepth 100000 in
theorem lk_any (ao : Option Addr) (n cap : Nat) (ts : List ByteArray) (hn : ts.length = n) (hm : n ≤ 4096) (bo : Option Addr) (cap2 : Nat) (zs : List Int) (hl : zs.length = n) (hz : ∀ k, k < n → nth zs k < (k : Int)) (w : World) (hin : InS w ao ts) (hin2 : In .i32 w bo zs) :
    Calls Tryd.prog 8 #[.slice ao n cap, .slice bo n cap2] w fun e w' => ∃ S, e = .returned (.slice (some ⟨S, 0, none⟩) n n) ∧ w.heap.size ≤ S ∧ Lp w' S n n ts zs ∧ Below w.heap.size w w' := by
  have HP := Lib.hid (plain_any ao n cap ts hn hm w hin)
  have HI := Lib.hid hin2
  clear hin hin2
  have HZ := Lib.hid hz
  clear hz
  go_enter Tryd.func8, Tryd.ntmps8
  go_upto_region 2 with (go_at_call 11; refine HP.out.mono ?_; rintro e w2 ⟨S, rfl, hS, hp, hb⟩)
  have H0 : Hid (w.heap.size ≤ S ∧ Lp w2 S n 0 ts zs ∧ Below w.heap.size w w2) := Lib.hid ⟨hS, hp.lp, hb⟩
  clear hS hp hb HP
  go_wp2_with fail
  go_loopg [6] n (fun k a wx => ∃ i : Nat, a = .int .i64 (i : Int) ∧ i ≤ n ∧ n - i ≤ k ∧ Hid (w.heap.size ≤ S ∧ Lp wx S n i ts zs ∧ Below w.heap.size w wx))
  case atStart => exact ⟨0, rfl, by omega, by omega, H0⟩
  case round =>
    obtain ⟨i, rfl, hi, hk, HB⟩ := hrel
    obtain ⟨wz, rfl⟩ : ∃ wz : World, wz = wr := ⟨_, rfl⟩
    rcases (show n = i ∨ i < n by omega) with he | hlt
    · obtain rfl := he
      go_wp2_with fail
      go_ret
      exact ⟨S, rfl, HB.out⟩
    · obtain ⟨b, off, rfl, hblt, hc⟩ := HI.out.at (i := i) (by omega)
      obtain ⟨z, hzz⟩ : ∃ z, nth zs i = z := ⟨_, rfl⟩
      rw [hzz] at hc
      have hzi := HZ.out i hlt
      rw [hzz] at hzi
      have hc' : wz.cell? ⟨b, off + i, none⟩ = some (.int .i32 z) := (HB.out.2.2.cell (p := ⟨b, off + i, none⟩) hblt).trans hc
      have HZZ := Lib.hid hzz
      clear hzz hc
      by_cases h0 : (0 : Int) ≤ z
      · have h1 : decide ((0 : Int) ≤ z) = true := by simp [h0]
        have hw1 : IntKind.u32.wrap z = z := by
          rw [show IntKind.u32.wrap z = z % 4294967296 from rfl]; omega
        obtain ⟨cs, q1, q2, _⟩ := HB.out.2.1.out
        obtain ⟨v2, k2⟩ := q1.has (i := i * 10 + 2) (by omega)
        have g2 := q1.free (i * 10 + 2)
        have q3 := q1.set (i * 10 + 2) (.int .u32 0)
        obtain ⟨v3, k3⟩ := q3.has (i := i * 10 + 2 + 1) (by simp; omega)
        have g3 := q3.free (i * 10 + 2 + 1)
        have hbS := q1.lt
        clear q1 q2 q3
        go_wp2_with fail
        go_roundg (gk - 1)
        case measure => omega
        case rel =>
          have hp := HB.out.2.1.put hlt (by rw [HZZ.out]; exact h0)
          rw [HZZ.out] at hp
          exact ⟨i + 1, by go_num, by omega, by omega, Lib.hid ⟨HB.out.1, hp, (HB.out.2.2.setCell (p := ⟨S, i * 10 + 2, none⟩) HB.out.1 _).setCell (p := ⟨S, i * 10 + 2 + 1, none⟩) HB.out.1 _⟩⟩
      · have h1 : decide ((0 : Int) ≤ z) = false := by simp; omega
        go_wp2_with fail
        go_roundg (gk - 1)
        case measure => omega
        case rel =>
          exact ⟨i + 1, by go_num, by omega, by omega, Lib.hid ⟨HB.out.1, HB.out.2.1.skip (by rw [HZZ.out]; omega), HB.out.2.2⟩⟩

/-- the root of symbol i: follow the links down -/
def rootOf (zs : List Int) : Nat → Nat → Nat
  | 0, i => i
  | f + 1, i => if 0 ≤ nth zs i then rootOf zs f (nth zs i).toNat else i
theorem rootOf_fuel {zs : List Int} {n : Nat} (hz : ∀ k, k < n → nth zs k < (k : Int)) : ∀ (f i : Nat), i < n → i < f → ∀ f', i < f' → rootOf zs f i = rootOf zs f' i := by
  intro f
  induction f with
  | zero => intro i _ h; omega
  | succ f ih =>
    intro i hi h f' h'
    obtain ⟨f', rfl⟩ : ∃ g, f' = g + 1 := ⟨f' - 1, by omega⟩
    have := hz i hi
    unfold rootOf
    by_cases h0 : 0 ≤ nth zs i
    · rw [if_pos h0, if_pos h0]
      exact ih _ (by omega) (by omega) _ (by omega)
    · rw [if_neg h0, if_neg h0]
def root (zs : List Int) (i : Nat) : Nat := rootOf zs (i + 1) i
theorem root_link {zs : List Int} {n : Nat} (hz : ∀ k, k < n → nth zs k < (k : Int)) {i : Nat} (hi : i < n) (h0 : 0 ≤ nth zs i) : root zs (nth zs i).toNat = root zs i := by
  have := hz i hi
  unfold root
  have e : rootOf zs (i + 1) i = rootOf zs i (nth zs i).toNat := by
    show (if 0 ≤ nth zs i then rootOf zs i (nth zs i).toNat else i) = _
    rw [if_pos h0]
  rw [e]
  exact rootOf_fuel hz _ _ (by omega) (by omega) _ (by omega)
theorem root_self {zs : List Int} {i : Nat} (h0 : nth zs i < 0) : root zs i = i := by
  unfold root rootOf
  rw [if_neg (by omega)]
theorem root_facts {zs : List Int} {n : Nat} (hz : ∀ k, k < n → nth zs k < (k : Int)) : ∀ (i : Nat), i < n → root zs i < n ∧ root zs i ≤ i ∧ root zs (root zs i) = root zs i := by
  intro i
  induction i using Nat.strongRecOn with
  | _ i ih =>
    intro hi
    by_cases h0 : 0 ≤ nth zs i
    · have h1 := hz i hi
      have h2 := ih (nth zs i).toNat (by omega) (by omega)
      rw [root_link hz hi h0] at h2
      exact ⟨h2.1, by omega, h2.2.2⟩
    · rw [root_self (by omega)]
      exact ⟨hi, Nat.le_refl _, root_self (by omega)⟩
theorem Lp.sy {w : World} {S T n : Nat} {ts : List ByteArray} {zs : List Int} (h : Lp w S n n ts zs) (hz : ∀ k, k < n → nth zs k < (k : Int)) (hT : Blk w T 28 #[.slice (some ⟨S, 0, none⟩) n n]) :
    ∃ ks : Array Value, Sy w T S 1 n ks (root zs) id ∧ ∀ i, i < n → ks[i * 10 + 1]? = some (.string (tth ts i)) := by
  obtain ⟨cs, h1, h2, h3⟩ := h.out
  refine ⟨cs, ⟨_, cs, hT, rfl, rfl, by decide, h1, h2, fun _ _ _ => rfl, fun i hi => ?_⟩, fun i hi => (h3 i hi).1⟩
  have h4 := (h3 i hi).2
  rw [if_pos hi] at h4
  rcases h4 with ⟨h5, h6, h7⟩ | ⟨h5, h6, h7⟩
  · exact .inl ⟨h6, h7, root_self h5⟩
  · have h8 := hz i hi
    exact .inr ⟨(nth zs i).toNat, by omega, h6, by rw [h7, show (((nth zs i).toNat : Nat) : Int) = nth zs i by omega], by show (nth zs i).toNat < i; omega, root_link hz hi h5⟩
end Go.Proofs.YtdpigpogicapoaaDoor
