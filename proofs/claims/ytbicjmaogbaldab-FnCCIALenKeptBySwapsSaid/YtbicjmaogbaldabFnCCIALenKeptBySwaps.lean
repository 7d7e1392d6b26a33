/-
  For every list of chunk indices and every script of swaps (out-of-range steps skipped) the law FnCCIALenKeptBySwaps returns true: Len never changes, and the sum and the xor of the chunk indices are kept (it returns true beyond its length bounds too). No conditions.
-/
import Derived.Test.YtbicjmaogbaldabRows
import Derived.WalkKit
import Derived.ProofKit
import Derived.OpenShut
import Derived.ShutString
import Derived.ChangeOld
import Derived.Below
import Derived.WalkSpells
import Derived.WalkLawsBesides
import Derived.LoopTactic
import Derived.RegionTactic
import Derived.BigRegion
import Derived.ChangeAlike
import Derived.OwnWalk
import Derived.Deep.RegionHeld3
import Derived.Laws.StructEq
import Derived.Laws.BitsAllLaws
import Derived.Laws.AppendOwn
import Derived.Test.YtbicjmaogbaldabInts
namespace Go.Proofs.Ytbicjmaogbaldab.fnCCIALenKeptBySwaps
open Go.ChangeShapes Go.WideShapes Go.ChangeAt Go.RowKit
open Go.ChangeMaps (open_string shut_string)
set_option linter.unusedVariables false

theorem own : ownKnob Try.prog.godebug = none := by kernel_rfl
theorem laidOut : laidOutB Try.prog = true := by kernel_rfl

/-- WHAT THE WALK IS TOLD OF A SLICE OF INTEGERS THAT CAME IN: it is nil; or it leads to a row of 'cap' cells, the numbers 'zs' (the first 'len' are its elements, the rest its spare room), each fitting its kind. -/
def IsRow (k : IntKind) (w : World) (a : Option Addr) (len cap : Nat) (zs : List Int) : Prop :=
  (a = none ∧ len = 0 ∧ cap = 0 ∧ zs = []) ∨
  ∃ x, a = some x ∧ len ≤ cap ∧ cap ≤ maxLen ∧ zs.length = cap ∧ (∀ i, i < zs.length → w.cell? (x.add i) = some (.int k (zs.getD i 0))) ∧ ∀ n ∈ zs, (Lit.int k n).wf = true

theorem row_in {k : IntKind} {w : World} {a : Option Addr} {len cap : Nat} {z : List Int} (h : IsRow k w a len cap z) : ∃ zs : List Int, zs.length = len ∧ In k w a zs ∧ zs.length ≤ maxLen ∧ ∀ i, i < zs.length → (Lit.int k (nth zs i)).wf = true := by
  rcases h with ⟨rfl, rfl, rfl, rfl⟩ | ⟨x, rfl, h1, h2, h3, h4, h5⟩
  · exact ⟨[], rfl, .inl rfl, by simp, fun i h => by simp at h⟩
  · have hl : (z.take len).length = len := by rw [List.length_take]; omega
    refine ⟨z.take len, hl, ?_, by omega, fun i hi => ?_⟩
    · by_cases h0 : len = 0
      · subst h0; exact .inl (by simp)
      · obtain ⟨b, off, spot⟩ := x
        have hc := h4 0 (by omega)
        have hspot : spot = none := by simpa [Addr.add] using World.cell?_spot hc
        subst hspot
        refine .inr ⟨b, off, rfl, World.block_lt_of_cell? w _ hc, fun i hi => ?_⟩
        have := h4 i (by omega)
        have e : (⟨b, off, none⟩ : Addr).add i = ⟨b, off + i, none⟩ := by unfold Addr.add; split <;> simp_all
        rw [e] at this
        rw [this, nth_take z len i (by omega)]; rfl
    · rw [nth_take z len i (by omega)]
      exact h5 _ (nth_mem z i (by omega))

/-! the plain side -/
def sig (i j k : Nat) : Nat := if k = i then j else if k = j then i else k
theorem sig_lt {i j k n : Nat} (hi : i < n) (hj : j < n) (hk : k < n) : sig i j k < n := by unfold sig; (repeat' split) <;> omega
theorem sig_sig (i j k : Nat) : sig i j (sig i j k) = k := by unfold sig; (repeat' split) <;> omega
def swl (i j : Nat) (zs : List Int) : List Int := (List.range zs.length).map fun k => nth zs (sig i j k)
theorem swl_length (i j : Nat) (zs : List Int) : (swl i j zs).length = zs.length := by simp [swl]
theorem swl_nth (i j : Nat) (zs : List Int) (k : Nat) (hk : k < zs.length) : nth (swl i j zs) k = nth zs (sig i j k) := by
  rw [nth_get _ _ (by rw [swl_length]; exact hk)]; simp [swl]

theorem range_perm (n i j : Nat) (hi : i < n) (hj : j < n) : ((List.range n).map (sig i j)).Perm (List.range n) := by
  refine (List.perm_ext_iff_of_nodup ?_ List.nodup_range).2 ?_
  · refine List.Pairwise.map _ ?_ List.nodup_range
    intro a b hne h
    have := congrArg (sig i j) h
    rw [sig_sig, sig_sig] at this
    exact hne this
  · intro a
    simp only [List.mem_map, List.mem_range]
    constructor
    · rintro ⟨b, hb, rfl⟩; exact sig_lt hi hj hb
    · intro ha; exact ⟨sig i j a, sig_lt hi hj ha, sig_sig i j a⟩
theorem swl_perm (i j : Nat) (zs : List Int) (hi : i < zs.length) (hj : j < zs.length) : (swl i j zs).Perm zs := by
  have h := (range_perm zs.length i j hi hj).map (nth zs)
  rw [List.map_map] at h
  have e : (List.range zs.length).map (nth zs) = zs := by
    apply List.ext_getElem (by simp)
    intro k h1 h2
    simp [nth, h2]
  rw [e] at h
  exact h

/-- the running sum and the running xor, as the machine keeps them -/
def sm (a x : Int) : Int := IntKind.u64.wrap (a + IntKind.u64.wrap x)
def xr (a x : Int) : Int := bits .xor .u32 a x
theorem sm_comm (a x y : Int) : sm (sm a x) y = sm (sm a y) x := by
  unfold sm
  simp only [IntKind.wrap, IntKind.bits, IntKind.signed]
  simp
  omega
theorem ofInt_wrap (x : BitVec 32) : BitVec.ofInt 32 (IntKind.u32.wrap (x.toNat : Int)) = x := by
  have h : IntKind.u32.wrap (x.toNat : Int) = (x.toNat : Int) := by rw [IntKind.wrap_u32']; have := x.isLt; omega
  rw [h, BitVec.ofInt_natCast, BitVec.ofNat_toNat]; simp
theorem xr_comm (a x y : Int) : xr (xr a x) y = xr (xr a y) x := by
  show IntKind.u32.wrap ((BitVec.ofInt 32 (IntKind.u32.wrap ((BitVec.ofInt 32 a ^^^ BitVec.ofInt 32 x).toNat : Int)) ^^^ BitVec.ofInt 32 y).toNat : Int) = IntKind.u32.wrap ((BitVec.ofInt 32 (IntKind.u32.wrap ((BitVec.ofInt 32 a ^^^ BitVec.ofInt 32 y).toNat : Int)) ^^^ BitVec.ofInt 32 x).toNat : Int)
  rw [ofInt_wrap, ofInt_wrap, BitVec.xor_assoc, BitVec.xor_assoc, BitVec.xor_comm (BitVec.ofInt 32 x)]
def run (f : Int → Int → Int) (zs : List Int) (k : Nat) : Int := (zs.take k).foldl f 0
theorem run_zero (f : Int → Int → Int) (zs : List Int) : run f zs 0 = 0 := by simp [run]
theorem run_step (f : Int → Int → Int) (zs : List Int) (k : Nat) (h : k < zs.length) : run f zs (k + 1) = f (run f zs k) (nth zs k) := by
  unfold run
  rw [List.take_succ_eq_append_getElem h, List.foldl_append, nth_get zs k h]; rfl
theorem run_perm {f : Int → Int → Int} (hf : ∀ a x y, f (f a x) y = f (f a y) x) {zs ys : List Int} (h : zs.Perm ys) : run f zs zs.length = run f ys ys.length := by
  unfold run
  rw [List.take_length, List.take_length]
  exact h.foldl_eq' (fun x _ y _ z => hf z x y) 0

/-- the array's block: two cells to an element, the second its chunk index -/
def Arr (w : World) (g : Nat) (zs : List Int) : Prop := ∃ cur : Array Value, Blk w g 55 cur ∧ ∀ k, k < zs.length → cur[k * 2]? = some (.slice none 0 0) ∧ cur[k * 2 + 1]? = some (.int .u32 (nth zs k))
theorem Arr.lt {w : World} {g : Nat} {zs : List Int} (h : Arr w g zs) : g < w.heap.size := by obtain ⟨cur, hb, _⟩ := h; exact hb.lt
theorem Arr.kept {w w' : World} {g : Nat} {zs : List Int} (h : Arr w g zs) (hb : Below w.heap.size w w') : Arr w' g zs := by obtain ⟨cur, h1, h2⟩ := h; exact ⟨cur, h1.kept hb, h2⟩
/-- the cells of a list of chunk indices -/
def cc (zs : List Int) : List Value := zs.flatMap fun z => [.slice none 0 0, .int .u32 z]
theorem cc_snoc (zs : List Int) (z : Int) : cc (zs ++ [z]) = cc zs ++ [.slice none 0 0, .int .u32 z] := by simp [cc]
theorem cc_length (zs : List Int) : (cc zs).length = zs.length * 2 := by
  induction zs with
  | nil => rfl
  | cons a t ih => show (.slice none 0 0 :: .int .u32 a :: cc t).length = _; simp [ih]; omega
theorem cc_at (zs : List Int) : ∀ k, k < zs.length → (cc zs)[k * 2]? = some (.slice none 0 0) ∧ (cc zs)[k * 2 + 1]? = some (.int .u32 (nth zs k)) := by
  induction zs with
  | nil => intro k h; simp at h
  | cons a t ih =>
    intro k h
    have e : cc (a :: t) = .slice none 0 0 :: .int .u32 a :: cc t := rfl
    rw [e]
    cases k with
    | zero => exact ⟨rfl, rfl⟩
    | succ k =>
      have := ih k (by simpa using h)
      rw [show (k + 1) * 2 = k * 2 + 2 from by omega]
      refine ⟨?_, ?_⟩
      · simpa using this.1
      · simpa [nth] using this.2
theorem ownsRow_below {w w' : World} {base : Nat} {e : TypeId} {size : Nat} {v : Value} {n : Nat} {xs : List Value} (h : w.ownsRow base e size v n xs) (hb : Below w.heap.size w w') : w'.ownsRow base e size v n xs := by
  obtain ⟨h1, h2⟩ := h
  refine ⟨h1, ?_⟩
  rcases h2 with h | ⟨g, cap, cur, rfl, a1, a2, a3⟩
  · exact .inl h
  · exact .inr ⟨g, cap, cur, rfl, a1, (hb.block g (blk_lt a2)).trans a2, a3⟩
theorem arr_of_row {w : World} {base : Nat} {v : Value} {zs : List Int} (h : w.ownsRow base 55 2 v zs.length (cc zs)) (hv : v ≠ .slice none 0 0) : ∃ g cap, v = .slice (some ⟨g, 0, none⟩) zs.length cap ∧ base ≤ g ∧ Arr w g zs := by
  obtain ⟨h1, h2⟩ := h
  rcases h2 with ⟨h, _⟩ | ⟨g, cap, cur, rfl, a1, a2, a3, a4, a5, a6⟩
  · exact absurd h hv
  · refine ⟨g, cap, rfl, a1, cur, a2, fun k hk => ?_⟩
    have := cc_at zs k hk
    rw [← a6] at this
    rw [List.getElem?_take, List.getElem?_take, if_pos (by omega), if_pos (by omega)] at this
    simpa using this

theorem new_any (z : Int) (w : World) : Calls Try.prog 28 #[.int .u32 z] w fun e w' => e = .returned (.agg #[.slice none 0 0, .int .u32 z]) ∧ Below w.heap.size w w' := by
  go_enter Try.func28, Try.ntmps28
  go_wp2
  exact bodyPost_ret (v := .agg #[.slice none 0 0, .int .u32 z]) (results_cell_row (d := _) Try.results28 _ _ w.heap.size 55 _ (0, 0) (by rfl) (heap_alloc_new _ _) Try.underlying55 rfl (by kernel_rfl)) rfl ⟨rfl, (Below.refl _ _).alloc (Nat.le_refl _) _⟩
theorem len_any (ao : Option Addr) (n cap : Nat) (w : World) : Calls Try.prog 19 #[.slice ao n cap] w fun e w' => e = .returned (.int .i64 n) ∧ w' = w := by
  go_enter Try.func19, Try.ntmps19
  go_wp2
  go_ret
  exact ⟨rfl, rfl⟩
theorem index_any (z : Int) (w : World) : Calls Try.prog 20 #[.agg #[.slice none 0 0, .int .u32 z]] w fun e w' => e = .returned (.int .u32 z) ∧ Below w.heap.size w w' := by
  go_enter Try.func20, Try.ntmps20
  go_wp2
  go_ret
  exact ⟨rfl, (Below.refl _ _).alloc (Nat.le_refl _) _⟩

theorem arr_swap {zs : List Int} {cur : Array Value} {i j : Nat} (hi : i < zs.length) (hj : j < zs.length) (h : ∀ k, k < zs.length → cur[k * 2]? = some (.slice none 0 0) ∧ cur[k * 2 + 1]? = some (.int .u32 (nth zs k))) :
    ∀ k, k < (swl i j zs).length → ((((cur.setIfInBounds (i * 2) (.slice none 0 0)).setIfInBounds (i * 2 + 1) (.int .u32 (nth zs j))).setIfInBounds (j * 2) (.slice none 0 0)).setIfInBounds (j * 2 + 1) (.int .u32 (nth zs i)))[k * 2]? = some (.slice none 0 0) ∧
      ((((cur.setIfInBounds (i * 2) (.slice none 0 0)).setIfInBounds (i * 2 + 1) (.int .u32 (nth zs j))).setIfInBounds (j * 2) (.slice none 0 0)).setIfInBounds (j * 2 + 1) (.int .u32 (nth zs i)))[k * 2 + 1]? = some (.int .u32 (nth (swl i j zs) k)) := by
  intro k hk
  rw [swl_length] at hk
  rw [swl_nth _ _ _ _ hk]
  obtain ⟨k1, k2⟩ := h k hk
  have si : i * 2 + 1 < cur.size := (Array.getElem?_eq_some_iff.1 (h i hi).2).1
  have sj : j * 2 + 1 < cur.size := (Array.getElem?_eq_some_iff.1 (h j hj).2).1
  have sk : k * 2 + 1 < cur.size := (Array.getElem?_eq_some_iff.1 k2).1
  simp only [Array.getElem?_setIfInBounds, Array.size_setIfInBounds, sig]
  by_cases c1 : k = j
  · subst c1
    by_cases c2 : k = i
    · subst c2
      refine ⟨?_, ?_⟩ <;> (repeat' split) <;> first | rfl | omega | simp_all
    · refine ⟨?_, ?_⟩ <;> (repeat' split) <;> first | rfl | omega | simp_all
  · by_cases c2 : k = i
    · subst c2
      refine ⟨?_, ?_⟩ <;> (repeat' split) <;> first | rfl | omega | simp_all
    · refine ⟨?_, ?_⟩ <;> (repeat' split) <;> first | rfl | omega | simp_all

theorem swap_any (g n cap i j : Nat) (zs : List Int) (w : World) (ha : Arr w g zs) (hn : zs.length = n) (hi : i < n) (hj : j < n) (hm : n ≤ 131072) :
    Calls Try.prog 18 #[.slice (some ⟨g, 0, none⟩) n cap, .int .i64 i, .int .i64 j] w fun e w' => e = .returned (.tuple #[]) ∧ Arr w' g (swl i j zs) ∧ w.grownBy w' (some g) := by
  subst hn
  obtain ⟨cur, hb, hc⟩ := ha
  have HR := Lib.hid ((((hb.set (i * 2) (.slice none 0 0)).set (i * 2 + 1) (.int .u32 (nth zs j))).set (j * 2) (.slice none 0 0)).set (j * 2 + 1) (.int .u32 (nth zs i))).drew
  have HG := Lib.hid (gb_drew (gb_set (gb_set (gb_set (gb_set (gb_refl w (some g)) (i * 2) none (.slice none 0 0)) (i * 2 + 1) none (.int .u32 (nth zs j))) (j * 2) none (.slice none 0 0)) (j * 2 + 1) none (.int .u32 (nth zs i))))
  have HS := Lib.hid (arr_swap hi hj hc)
  have i0 := (hb.cell (i * 2)).trans (hc i hi).1
  have i1 := (hb.cell (i * 2 + 1)).trans (hc i hi).2
  have j0 := (hb.cell (j * 2)).trans (hc j hj).1
  have j1 := (hb.cell (j * 2 + 1)).trans (hc j hj).2
  have fi0 := hb.free (i * 2)
  have fi1 := hb.free (i * 2 + 1)
  have fj0 := hb.free (j * 2)
  have fj1 := hb.free (j * 2 + 1)
  clear hb hc
  by_cases hij : i = j
  · subst hij
    clear j0 j1 fj0 fj1 hj
    go_enter Try.func18, Try.ntmps18
    go_wp2
    go_region
    go_end0
    exact ⟨rfl, ⟨_, HR.out, HS.out⟩, HG.out⟩
  · have n1 : ¬ j * 2 = i * 2 := by omega
    have n2 : ¬ j * 2 = i * 2 + 1 := by omega
    have n4 : ¬ j * 2 + 1 = i * 2 := by omega
    have n5 : ¬ j * 2 + 1 = i * 2 + 1 := by omega
    go_enter Try.func18, Try.ntmps18
    go_wp2
    go_region
    go_end0
    exact ⟨rfl, ⟨_, HR.out, HS.out⟩, HG.out⟩
theorem news_two (w : World) (t : TypeId) (x y : Value) : ∀ j u, [x, y][j]? = some u → (w.alloc (.cells #[x, y] t)).cell? ((⟨w.heap.size, 0, none⟩ : Addr).add j) = some u := by
  intro j u h
  have hadd : (⟨w.heap.size, 0, none⟩ : Addr).add j = ⟨w.heap.size, j, none⟩ := by unfold Addr.add; split <;> simp_all
  rw [hadd, blk_cell (heap_alloc_new w _) j, ← h]; simp
theorem take_snoc_nth (zs : List Int) (k : Nat) (h : k < zs.length) : zs.take (k + 1) = zs.take k ++ [nth zs k] := by
  rw [List.take_succ_eq_append_getElem h, nth_get zs k h]
theorem info55 : (Try.prog.info? 55).map (fun i => (i.zero, i.size, i.bytes)) = some (some (.agg #[.slice none 0 0, .int .u32 0]), 2, 32) := by kernel_rfl
theorem build_any (ao : Option Addr) (cap : Nat) (zs : List Int) (w : World) (hin : In .u32 w ao zs) (hm : zs.length ≤ 131072) :
    Calls Try.prog 17 #[.slice ao zs.length cap] w fun e w' => (∃ g c, e = .returned (.slice (some ⟨g, 0, none⟩) zs.length c) ∧ w.heap.size ≤ g ∧ Arr w' g zs) ∧ Below w.heap.size w w' := by
  obtain ⟨i0, hi, hz0, hz1, hz2⟩ := info_parts info55
  have HI := Lib.hid hin
  clear hin
  go_enter Try.func17, Try.ntmps17
  go_wp2_with (at_make; refine wpList_make_own _ rfl _ _ 48 rfl w.heap.size 55 i0 _ 2 Try.underlying48 hi hz0 hz1 .i64 .i64 zs.length zs.length rfl rfl rfl (by rw [hz2]; omega) (by unfold maxLen; omega) (Nat.le_refl _) ?_; intro w1 hown hgr)
  have hb1 : Below w.heap.size w w1 := (Below.refl _ w).grown hgr (Nat.le_refl _) (fun k h => by cases h)
  have HB := Lib.hid (And.intro hown hb1)
  clear hown hgr hb1
  go_loopw [3, 4] (fun v i wr => ∃ k : Nat, k ≤ zs.length ∧ i = .int .i64 k ∧ wr.ownsRow w.heap.size 55 2 v k (cc (zs.take k)) ∧ v ≠ .slice none 0 0 ∧ Below w.heap.size w wr) (fun _ i _ => zs.length - (intOf i).toNat)
  case atStart => exact ⟨0, Nat.zero_le _, rfl, HB.out.1, by simp, HB.out.2⟩
  case round =>
    obtain ⟨k, hk, rfl, hown, hv, hbel⟩ := hrel
    rcases (show k = zs.length ∨ k < zs.length by omega) with rfl | hlt
    · rw [List.take_length] at hown
      obtain ⟨g, c, rfl, hg, ha⟩ := arr_of_row hown hv
      have HF := Lib.hid (And.intro ha hbel)
      clear hown hv ha hbel
      go_wp2
      go_ret
      exact ⟨⟨g, c, rfl, hg, HF.out.1⟩, HF.out.2⟩
    · obtain ⟨b, off, hx, hblt, hc⟩ := HI.out.at hlt
      cases hx
      have hc' := (hbel.cell (p := ⟨b, off + k, none⟩) hblt).trans hc
      have hsz := hbel.size
      have HN := Lib.hid (And.intro hown (And.intro hv hbel))
      clear hown hv hbel hc
      go_wp2_with fail
      refine (new_any (nth zs k) wr).mono ?_
      rintro e w2 ⟨rfl, b2⟩
      have K := Lib.hid (And.intro (ownsRow_below HN.out.1 b2) (And.intro HN.out.2.1 (below_then HN.out.2.2 b2 hsz)))
      have z2 : w.heap.size ≤ w2.heap.size := Nat.le_trans hsz b2.size
      clear b2 hc' HN
      go_wp2_with (at_builtin; refine wpList_append_own _ rfl _ _ 48 rfl w.heap.size 55 i0 _ 2 32 Try.underlying48 hi hz0 hz1 hz2 rfl (by decide) _ _ _ rfl (K.out.1.alloc _) ⟨w2.heap.size, 0, none⟩ 1 1 [.slice none 0 0, .int .u32 (nth zs k)] rfl rfl (news_two _ _ _ _) (fun x hx => by simp at hx; rcases hx with rfl | rfl <;> rfl) (by unfold maxLen; omega) (by omega) (by simp; omega) ?_; intro v' w3 hown' hgrow3 hnil3)
      have hbw3 : Below w.heap.size w w3 := Below.grown (K.out.2.2.alloc z2 _) hgrow3 (by simp; omega) (fun j hj => (K.out.1.lt _ hj).1)
      have hv3 : v' ≠ .slice none 0 0 := fun h => by have := (hnil3.1 h).2; omega
      rw [← cc_snoc, ← take_snoc_nth zs k hlt] at hown'
      have HZ := Lib.hid (And.intro hown' (And.intro hv3 hbw3))
      clear hown' hgrow3 hnil3 hbw3 hv3
      go_roundw
      case rel => exact ⟨k + 1, by omega, by go_num, HZ.out.1, HZ.out.2.1, HZ.out.2.2⟩
      case measure => simp [intOf]; omega
theorem bytes_yes (a0 a1 a2 : Option Addr) (n0 n1 n2 c0 c1 c2 : Nat) (w : World) (h : n0 + n1 + n2 ≤ 1048576) :
    Calls Try.prog 16 #[.slice a0 n0 c0, .slice a1 n1 c1, .slice a2 n2 c2] w fun e w' => e = .returned (.bool true) ∧ w' = w := by
  have h0 : n0 ≤ 1048576 := by omega
  have h1 : n1 ≤ 1048576 := by omega
  have h2 : n2 ≤ 1048576 := by omega
  have h01 : n0 + n1 ≤ 1048576 := by omega
  go_enter Try.func16, Try.ntmps16
  go_wp2
  go_ret
  exact ⟨rfl, rfl⟩
theorem bytes_no (a0 a1 a2 : Option Addr) (n0 n1 n2 c0 c1 c2 : Nat) (w : World) (h : 1048576 < n0 + n1 + n2) (m0 : n0 ≤ maxLen) (m1 : n1 ≤ maxLen) (m2 : n2 ≤ maxLen) :
    Calls Try.prog 16 #[.slice a0 n0 c0, .slice a1 n1 c1, .slice a2 n2 c2] w fun e w' => e = .returned (.bool false) ∧ w' = w := by
  unfold maxLen at m0 m1 m2
  by_cases h0 : n0 ≤ 1048576
  rotate_left
  · go_enter Try.func16, Try.ntmps16
    go_wp2
    go_ret
    exact ⟨rfl, rfl⟩
  by_cases h1 : n1 ≤ 1048576
  rotate_left
  · go_enter Try.func16, Try.ntmps16
    go_wp2
    go_ret
    exact ⟨rfl, rfl⟩
  by_cases h01 : n0 + n1 ≤ 1048576
  rotate_left
  · go_enter Try.func16, Try.ntmps16
    go_wp2
    go_ret
    exact ⟨rfl, rfl⟩
  by_cases h2 : n2 ≤ 1048576
  all_goals
    go_enter Try.func16, Try.ntmps16
    go_wp2
    go_ret
    exact ⟨rfl, rfl⟩
theorem bad1 (a0 a1 a2 : Option Addr) (n0 n1 n2 c0 c1 c2 : Nat) (w : World) (h : 1048576 < n0 + n1 + n2) (m0 : n0 ≤ maxLen) (m1 : n1 ≤ maxLen) (m2 : n2 ≤ maxLen) :
    Calls Try.prog 5 #[.slice a0 n0 c0, .slice a1 n1 c1, .slice a2 n2 c2] w fun e w' => e = .returned (.bool true) ∧ Below w.heap.size w w' := by
  go_enter Try.func5, Try.ntmps5
  go_wp2_with fail
  refine (bytes_no _ _ _ _ _ _ _ _ _ _ h m0 m1 m2).mono ?_
  rintro e w1 ⟨rfl, rfl⟩
  go_wp2
  go_ret
  exact ⟨rfl, Below.refl _ _⟩
theorem bad2 (a0 a1 a2 : Option Addr) (n0 n1 n2 c0 c1 c2 : Nat) (w : World) (h : n0 + n1 + n2 ≤ 1048576) (k : 131072 < n0 ∨ 65536 < n1 ∧ n0 ≤ 131072 ∨ 65536 < n2 ∧ n1 ≤ 65536 ∧ n0 ≤ 131072 ∨ 131072 < n0 + n1 + n2 ∧ n2 ≤ 65536 ∧ n1 ≤ 65536 ∧ n0 ≤ 131072) :
    Calls Try.prog 5 #[.slice a0 n0 c0, .slice a1 n1 c1, .slice a2 n2 c2] w fun e w' => e = .returned (.bool true) ∧ Below w.heap.size w w' := by
  rcases k with k | ⟨k, k1⟩ | ⟨k, k1, k2⟩ | ⟨k, k1, k2, k3⟩
  all_goals
    go_enter Try.func5, Try.ntmps5
    go_wp2_with fail
    refine (bytes_yes _ _ _ _ _ _ _ _ _ _ h).mono ?_
    rintro e w1 ⟨rfl, rfl⟩
    go_wp2
    go_ret
    exact ⟨rfl, Below.refl _ _⟩
set_option maxRecDepth 100000 in
set_option maxHeartbeats 2000000 in
theorem good (a0 a1 a2 : Option Addr) (c0 c1 c2 : Nat) (zs A B : List Int) (w : World) (H : Hid (In .u32 w a0 zs ∧ In .i64 w a1 A ∧ In .i64 w a2 B)) (HR : Hid (∀ i, i < zs.length → (Lit.int .u32 (nth zs i)).wf = true)) (HT : Hid ((∀ i, i < A.length → (Lit.int .i64 (nth A i)).wf = true) ∧ (∀ i, i < B.length → (Lit.int .i64 (nth B i)).wf = true)))
    (h0 : zs.length ≤ 131072) (h1 : A.length ≤ 65536) (h2 : B.length ≤ 65536) (h3 : zs.length + A.length + B.length ≤ 131072) (h4 : A.length ≤ B.length ∨ B.length < A.length) :
    Calls Try.prog 5 #[.slice a0 zs.length c0, .slice a1 A.length c1, .slice a2 B.length c2] w fun e w' => e = .returned (.bool true) ∧ Below w.heap.size w w' := by
  have I0 : (zs.length : Int) ≤ 131072 := by omega
  have I1 : (A.length : Int) ≤ 65536 := by omega
  have I2 : (B.length : Int) ≤ 65536 := by omega
  have I3 : 8 * ((zs.length : Int) + A.length + B.length) ≤ 1048576 := by omega
  have I4 : (A.length : Int) ≤ B.length ∨ (B.length : Int) < A.length := by omega
  rcases I4 with I4 | I4
  all_goals
    clear h4
    go_enter Try.func5, Try.ntmps5
    go_wp2_with fail
    refine (bytes_yes _ _ _ _ _ _ _ _ _ _ (by omega)).mono ?_
    rintro e w1 ⟨rfl, rfl⟩
    have D0 : decide ((131072 : Int) < (zs.length : Int)) = false := by simp; omega
    have D1 : decide ((65536 : Int) < (A.length : Int)) = false := by simp; omega
    have D2 : decide ((65536 : Int) < (B.length : Int)) = false := by simp; omega
    have D3 : decide ((1048576 : Int) < 8 * ((zs.length : Int) + (A.length : Int) + (B.length : Int))) = false := by simp; omega
    first
      | (have D4 : decide ((B.length : Int) < (A.length : Int)) = false := by simp; omega)
      | (have D4 : decide ((B.length : Int) < (A.length : Int)) = true := by simp; omega)
    first
      | (have D5 : decide (B.length < A.length) = false := by simp; omega)
      | (have D5 : decide (B.length < A.length) = true := by simp; omega)
    go_wp2
    go_loopw [8, 9, 10] (fun s x i wr => ∃ k : Nat, k ≤ zs.length ∧ i = .int .i64 k ∧ s = .int .u64 (run sm zs k) ∧ x = .int .u32 (run xr zs k) ∧ wr = w1) (fun _ _ i _ => zs.length - (intOf i).toNat)
    case atStart => exact ⟨0, Nat.zero_le _, rfl, by rw [run_zero], by rw [run_zero], rfl⟩
    case round =>
      obtain ⟨k, hk, rfl, rfl, rfl, rfl⟩ := hrel
      rcases (show k = zs.length ∨ k < zs.length by omega) with rfl | hlt
      · obtain ⟨wa, rfl⟩ : ∃ wa : World, wa = wr := ⟨_, rfl⟩
        go_wp2_with fail
        refine (build_any a0 c0 zs _ H.out.1 h0).mono ?_
        rintro e w2 ⟨⟨g, cg, rfl, hg, hA⟩, b2⟩
        have K := Lib.hid (And.intro hA (And.intro b2 (And.intro (H.out.2.1.kept b2) (H.out.2.2.kept b2))))
        have Kz := Lib.hid b2.size
        clear hA b2
        go_wp2
        go_loopw [13, 14, 15] (fun x i j w' => ∃ (k : Nat) (ys : List Int), k ≤ A.length ∧ k ≤ B.length ∧ x = .int .i64 k ∧ ys.Perm zs ∧ Arr w' g ys ∧ Below wa.heap.size wa w') (fun x _ _ _ => A.length - (intOf x).toNat)
        case atStart => exact ⟨0, zs, Nat.zero_le _, Nat.zero_le _, rfl, List.Perm.refl _, K.out.1, K.out.2.1⟩
        case round =>
          obtain ⟨k, ys, hkA, hkB, rfl, hP, hA, hB⟩ := hrel
          by_cases hend : k < A.length ∧ k < B.length
          · obtain ⟨kA, kB⟩ := hend
            obtain ⟨p1, o1, hx1, hl1, q1⟩ := (H.out.2.1).at kA
            obtain ⟨p2, o2, hx2, hl2, q2⟩ := (H.out.2.2).at kB
            cases hx1
            cases hx2
            have q1' := (hB.cell (p := ⟨p1, o1 + k, none⟩) hl1).trans q1
            have q2' := (hB.cell (p := ⟨p2, o2 + k, none⟩) hl2).trans q2
            have HN := Lib.hid (And.intro hP (And.intro hA hB))
            have hlen : ys.length = zs.length := hP.length_eq
            have hsz := hB.size
            clear hP hA hB q1 q2
            by_cases hr : 0 ≤ nth A k ∧ nth A k < zs.length ∧ 0 ≤ nth B k ∧ nth B k < zs.length
            · obtain ⟨r1, r2, r3, r4⟩ := hr
              obtain ⟨i, hi⟩ := Int.eq_ofNat_of_zero_le r1
              obtain ⟨j, hj⟩ := Int.eq_ofNat_of_zero_le r3
              rw [hi] at q1' r2
              rw [hj] at q2' r4
              clear r1 r3
              have si : (0 : Int) ≤ (i : Int) := by omega
              have sj : (0 : Int) ≤ (j : Int) := by omega
              go_wp2_with fail
              refine (swap_any g zs.length cg i j ys _ HN.out.2.1 hlen (by omega) (by omega) h0).mono ?_
              rintro e w3 ⟨rfl, hA3, hg3⟩
              have HZ := Lib.hid (And.intro ((swl_perm i j ys (by omega) (by omega)).trans HN.out.1) (And.intro hA3 (below_gb HN.out.2.2 hg3 hsz hg)))
              clear hA3 hg3 q1' q2'
              go_wp2_with fail
              refine (len_any _ _ _ _).mono ?_
              rintro e w4 ⟨rfl, rfl⟩
              go_wp2
              go_roundw
              case rel => exact ⟨k + 1, _, by omega, by omega, by go_num, HZ.out.1, HZ.out.2.1, HZ.out.2.2⟩
              case measure => simp [intOf]; omega
            · have hr' : nth A k < 0 ∨ (0 ≤ nth A k ∧ (zs.length : Int) ≤ nth A k) ∨ (0 ≤ nth A k ∧ nth A k < zs.length ∧ nth B k < 0) ∨ (0 ≤ nth A k ∧ nth A k < zs.length ∧ 0 ≤ nth B k ∧ (zs.length : Int) ≤ nth B k) := by omega
              clear hr
              rcases hr' with r | ⟨r1, r2⟩ | ⟨r1, r2, r3⟩ | ⟨r1, r2, r3, r4⟩
              all_goals
                go_wp2
                go_roundw
                case rel => exact ⟨k + 1, _, by omega, by omega, by go_num, HN.out.1, HN.out.2.1, HN.out.2.2⟩
                case measure => simp [intOf]; omega
          · have hkE : k = A.length ∨ k = B.length := by omega
            have hlen : ys.length = zs.length := hP.length_eq
            have HN := Lib.hid (And.intro hP (And.intro hA hB))
            have E1 : Hid (run sm ys zs.length = run sm zs zs.length ∧ run xr ys zs.length = run xr zs zs.length) := Lib.hid ⟨by have := run_perm sm_comm hP; rw [hlen] at this; exact this, by have := run_perm xr_comm hP; rw [hlen] at this; exact this⟩
            clear hP hA hB
            first
              | (have hkE : decide (k < A.length) = false := by simp; omega)
              | (have hkE : decide (k < B.length) = false := by simp; omega)
            first
              | (have hkI : decide ((k : Int) < (A.length : Int)) = false := by simp; omega)
              | (have hkI : decide ((k : Int) < (B.length : Int)) = false := by simp; omega)
            first
              | (have hkL : A.length ≤ k := by omega)
              | (have hkL : B.length ≤ k := by omega)
            go_wp2
            go_loopw [16, 17, 18, 19] (fun s x i _ w' => ∃ k : Nat, k ≤ zs.length ∧ i = .int .i64 k ∧ s = .int .u64 (run sm ys k) ∧ x = .int .u32 (run xr ys k) ∧ Arr w' g ys ∧ Below wa.heap.size wa w') (fun _ _ i _ _ => zs.length - (intOf i).toNat)
            case atStart => exact ⟨0, Nat.zero_le _, rfl, by rw [run_zero], by rw [run_zero], HN.out.2.1, HN.out.2.2⟩
            case round =>
              obtain ⟨m, hm, rfl, hs, hx, hA, hB⟩ := hrel
              have HQ := Lib.hid (And.intro hA hB)
              have hsz := hB.size
              rcases (show m = zs.length ∨ m < zs.length by omega) with rfl | hlt
              · rw [E1.out.1] at hs
                rw [E1.out.2] at hx
                subst hs hx
                clear hA hB
                go_wp2_with fail
                refine (len_any _ _ _ _).mono ?_
                rintro e w4 ⟨rfl, rfl⟩
                go_wp2_with fail
                refine (len_any _ _ _ _).mono ?_
                rintro e w5 ⟨rfl, rfl⟩
                go_wp2
                go_ret
                exact ⟨rfl, HQ.out.2⟩
              · subst hs hx
                obtain ⟨cur, hbk, hcs⟩ := hA
                have q0 := (hbk.cell (m * 2)).trans (hcs m (by omega)).1
                have q1 := (hbk.cell (m * 2 + 1)).trans (hcs m (by omega)).2
                clear hbk hcs hB
                have i0 : (0 : Int) ≤ (m : Int) := by omega
                have i1 : (m : Int) < (zs.length : Int) := by omega
                go_wp2_with fail
                refine (len_any _ _ _ _).mono ?_
                rintro e w4 ⟨rfl, rfl⟩
                go_wp2_with fail
                refine (index_any _ _).mono ?_
                rintro e w5 ⟨rfl, b5⟩
                have HZ := Lib.hid (And.intro (HQ.out.1.kept b5) (below_then HQ.out.2 b5 hsz))
                clear b5 q0 q1
                go_wp2
                go_roundw
                case rel => exact ⟨m + 1, by omega, by go_num, by rw [run_step _ _ _ (by omega)]; rfl, by rw [run_step _ _ _ (by omega)]; rfl, HZ.out.1, HZ.out.2⟩
                case measure => simp [intOf]; omega
      · obtain ⟨b, off, hx, hblt, hc⟩ := H.out.1.at hlt
        cases hx
        go_wp2
        refine ⟨⟨k + 1, by omega, by go_num, ?_, ?_, trivial⟩, by simp [intOf]; omega⟩
        · rw [run_step _ _ _ hlt]; rfl
        · rw [run_step _ _ _ hlt]; rfl

theorem walk (a0 : Option Addr) (len0 cap0 : Nat) (z0 : List Int) (a1 : Option Addr) (len1 cap1 : Nat) (z1 : List Int) (a2 : Option Addr) (len2 cap2 : Nat) (z2 : List Int) (w : World) (w0 : IsRow .u32 w a0 len0 cap0 z0) (w1 : IsRow .i64 w a1 len1 cap1 z1) (w2 : IsRow .i64 w a2 len2 cap2 z2) :
    Calls Try.prog 5 #[.slice a0 len0 cap0, .slice a1 len1 cap1, .slice a2 len2 cap2] w fun e w' => e = .returned (.bool true) ∧ Below w.heap.size w w' := by
  obtain ⟨zs, hz0, hI0, m0, hw0⟩ := row_in w0
  obtain ⟨A, hz1, hI1, m1, hw1⟩ := row_in w1
  obtain ⟨B, hz2, hI2, m2, hw2⟩ := row_in w2
  subst hz0 hz1 hz2
  by_cases hs : zs.length + A.length + B.length ≤ 1048576
  rotate_left
  · exact bad1 _ _ _ _ _ _ _ _ _ _ (by omega) m0 m1 m2
  by_cases hg : zs.length ≤ 131072 ∧ A.length ≤ 65536 ∧ B.length ≤ 65536 ∧ zs.length + A.length + B.length ≤ 131072
  · exact good _ _ _ _ _ _ zs A B w (Lib.hid ⟨hI0, hI1, hI2⟩) (Lib.hid hw0) (Lib.hid ⟨hw1, hw2⟩) hg.1 hg.2.1 hg.2.2.1 hg.2.2.2 (by omega)
  · exact bad2 _ _ _ _ _ _ _ _ _ _ hs (by omega)

set_option maxRecDepth 100000 in
theorem lifted (os : Os) (started : os.Started) (H : Type) (enc : TypeId × Value → H) :
    ReturnsInHanded {} Try.checked os 5 .any (Rows.fnCCIALenKeptBySwapsSpec.pre6 enc Try.prog Try.f5 Rows.fnCCIALenKeptBySwapsRow.domain false) (Rows.fnCCIALenKeptBySwapsSpec.post enc Try.prog Try.f5 false true false false) := by
  refine returnsInHanded_of_change (C := Try.checked) own started (by kernel_rfl) Try.func5
    (ChangeSpec.witness6 (enc := enc) (C := Try.checked) false ⟨#[], #[.slice none 0 0, .slice none 0 0, .slice none 0 0], []⟩ 8 (by kernel_rfl) (by kernel_rfl) (by kernel_rfl) (by kernel_rfl)) ?_
  intro W base args ds gs before hval0 hW hcnd _
  have hval : ∀ (j : Nat) t v, Try.f5.params[j]? = some t → args[j]? = some v → Value.okWide Try.prog W .any base t v := hval0
  have hW' := hW
  obtain ⟨p, q, hA0, hV, rfl, hfz, hnd⟩ := hW
  have hA : DataW.TrodAll enc Try.prog W 0 (fun _ => true) true Try.f5.params.toList args.toList ds p := hA0
  rw [Try.params5] at hA hval
  obtain ⟨v0, vs0, d0, ds0, p0, q0, hargs, rfl, rfl, h0, r0⟩ := trodAll_cons hA
  obtain ⟨v1, vs1, d1, ds1, p1, q1, rfl, rfl, rfl, h1, r1⟩ := trodAll_cons r0
  obtain ⟨v2, vs2, d2, ds2, p2, q2, rfl, rfl, rfl, h2, r2⟩ := trodAll_cons r1
  obtain ⟨rfl, rfl, rfl⟩ := trodAll_nil r2
  obtain rfl : args = #[v0, v1, v2] := by cases args; simp_all
  obtain ⟨rfl, rfl⟩ := trodVars_none hV
  obtain ⟨a0, len0, cap0, rfl⟩ := okWide_slice Try.underlying32 (hval 0 32 v0 rfl rfl)
  have k0 := h0
  have lt0 : ∀ x ∈ p0, x.block < W.heap.size := by obtain ⟨m, hm⟩ := k0; exact DataW.trod_lt m _ _ _ hm
  obtain ⟨z0, w0⟩ : ∃ zs, IsRow .u32 W a0 len0 cap0 zs := by
    obtain ⟨fuel, hf⟩ := h0
    rcases open_ints Try.underlying32 Try.underlying22 (by kernel_rfl) hf with ⟨hcs, _⟩ | ⟨x, l, c, zs, hcs, _, hl, hm, hz, _, hcell, hwz⟩
    · simp [Value.cells] at hcs
      obtain ⟨rfl, rfl, rfl⟩ := hcs
      exact ⟨[], .inl ⟨rfl, rfl, rfl, rfl⟩⟩
    · simp [Value.cells] at hcs
      obtain ⟨rfl, rfl, rfl⟩ := hcs
      exact ⟨zs, .inr ⟨_, rfl, hl, hm, by simpa using hz, hcell, hwz⟩⟩
  obtain ⟨a1, len1, cap1, rfl⟩ := okWide_slice Try.underlying44 (hval 1 44 v1 rfl rfl)
  have k1 := h1
  have lt1 : ∀ x ∈ p1, x.block < W.heap.size := by obtain ⟨m, hm⟩ := k1; exact DataW.trod_lt m _ _ _ hm
  obtain ⟨z1, w1⟩ : ∃ zs, IsRow .i64 W a1 len1 cap1 zs := by
    obtain ⟨fuel, hf⟩ := h1
    rcases open_ints Try.underlying44 Try.underlying3 (by kernel_rfl) hf with ⟨hcs, _⟩ | ⟨x, l, c, zs, hcs, _, hl, hm, hz, _, hcell, hwz⟩
    · simp [Value.cells] at hcs
      obtain ⟨rfl, rfl, rfl⟩ := hcs
      exact ⟨[], .inl ⟨rfl, rfl, rfl, rfl⟩⟩
    · simp [Value.cells] at hcs
      obtain ⟨rfl, rfl, rfl⟩ := hcs
      exact ⟨zs, .inr ⟨_, rfl, hl, hm, by simpa using hz, hcell, hwz⟩⟩
  obtain ⟨a2, len2, cap2, rfl⟩ := okWide_slice Try.underlying44 (hval 2 44 v2 rfl rfl)
  have k2 := h2
  have lt2 : ∀ x ∈ p2, x.block < W.heap.size := by obtain ⟨m, hm⟩ := k2; exact DataW.trod_lt m _ _ _ hm
  obtain ⟨z2, w2⟩ : ∃ zs, IsRow .i64 W a2 len2 cap2 zs := by
    obtain ⟨fuel, hf⟩ := h2
    rcases open_ints Try.underlying44 Try.underlying3 (by kernel_rfl) hf with ⟨hcs, _⟩ | ⟨x, l, c, zs, hcs, _, hl, hm, hz, _, hcell, hwz⟩
    · simp [Value.cells] at hcs
      obtain ⟨rfl, rfl, rfl⟩ := hcs
      exact ⟨[], .inl ⟨rfl, rfl, rfl, rfl⟩⟩
    · simp [Value.cells] at hcs
      obtain ⟨rfl, rfl, rfl⟩ := hcs
      exact ⟨zs, .inr ⟨_, rfl, hl, hm, by simpa using hz, hcell, hwz⟩⟩
  clear hA0 hval0
  refine (walk a0 len0 cap0 z0 a1 len1 cap1 z1 a2 len2 cap2 z2 W w0 w1 w2).mono fun e W' ⟨he, bel⟩ => ?_
  subst he
  exact ⟨_, rfl, _, _, _, [], _, [], hW', trodAll_mk1 (shut_bool Try.underlying4 _), (trodAll_cons_mk (Below.trod laidOut (by kernel_rfl) (of_decide_eq_true (by kernel_rfl)) k0 bel lt0) (trodAll_cons_mk (Below.trod laidOut (by kernel_rfl) (of_decide_eq_true (by kernel_rfl)) k1 bel lt1) (trodAll_cons_mk (Below.trod laidOut (by kernel_rfl) (of_decide_eq_true (by kernel_rfl)) k2 bel lt2) trodAll_mk0))), rfl, bel.frame _, fun h => by cases h⟩

theorem over : Rows.fnCCIALenKeptBySwapsRow.holds Try.pinned (OpenSpec.ofChange Rows.fnCCIALenKeptBySwapsSpec) :=
  OpenClaim.holds_of_wide 5 Try.f5 rfl rfl rfl rfl rfl rfl rfl ⟨rfl, rfl, rfl, rfl, rfl⟩ rfl rfl rfl rfl rfl (by kernel_rfl) Try.func5 (by kernel_rfl)
    (of_decide_eq_true (by kernel_rfl)) (by unfold Func.isWrapper; first | (rw [if_pos (by decide +kernel)]; kernel_rfl) | (rw [if_neg (by decide +kernel)]; exact ⟨rfl, rfl⟩))
    (fun os started H enc _ => lifted os started H enc)

/-- THE STATEMENT -/
theorem proved : Rows.FnCCIALenKeptBySwapsSaid := over
#print axioms proved
end Go.Proofs.Ytbicjmaogbaldab.fnCCIALenKeptBySwaps
