/-
  The walks of the functions that FnAppendOrExtendScriptRoundTrip reaches: zzCloneU32, ZZappendOrExtendPartRange, zzUnpackPartRanges, appendOrExtendPartRange.
-/
import Derived.Test.YtbicjmaogbaldabRows
import Derived.WalkKit
import Derived.ProofKit
import Derived.WalkSpells
import Derived.WalkLawsBesides
import Derived.LoopTactic
import Derived.RegionTactic
import Derived.BigRegion
import Derived.ChangeAlike
import Derived.OwnWalk
import Derived.Deep.RegionHeld3
import Derived.Deep.QuietTactic
import Derived.Laws.StructEq
import Derived.Laws.AppendOwn
import Derived.Test.YtbicjmaogbaldabExtPlain
namespace Go.Proofs.Ytbicjmaogbaldab
open Go.RowKit

theorem clone_info : (Try.prog.info? 22).map (fun i => (i.zero, i.size, i.bytes)) = some (some (.int .u32 0), 1, 4) := by kernel_rfl
theorem clone_any (ao : Option Addr) (cap : Nat) (zs : List Int) (w : World) (hin : In .u32 w ao zs) (hl : zs.length ≤ 1048576) :
    Calls Try.prog 22 #[.slice ao zs.length cap] w (Cloned .u32 22 w zs) := by
  have hnil := fun (w : World) => Lib.run_eql_slice_nil (P := Try.prog) w 32 22 ao zs.length cap 0 0 Try.underlying32
  rcases ao with _ | x
  · have hz : zs = [] := by
      rcases hin with h | ⟨b, off, h, _⟩
      · exact h
      · cases h
    subst hz
    clear hin hl
    simp only [List.length_nil, Option.isNone_none] at hnil
    go_enter Try.func22, Try.ntmps22
    go_wp2
    go_ret
    exact ⟨_, _, rfl, .inl rfl, Below.refl _ _⟩
  · have HI := Lib.hid hin
    clear hin
    go_enter Try.func22, Try.ntmps22
    go_wp2_with (at_make; refine wpList_make_ints _ rfl _ _ 32 rfl 22 .u32 4 Try.underlying32 clone_info zs.length rfl rfl (by omega) (by unfold maxLen; omega) ?_; intro w1 hb hgr)
    have hb1 : Below w.heap.size w w1 := (Below.refl _ w).grown hgr (Nat.le_refl _) (fun k h => by cases h)
    have HB := Lib.hid (And.intro hb hb1)
    clear hb hgr hb1
    go_loopw [4] (fun i wr => ∃ k : Nat, k ≤ zs.length ∧ i = .int .i64 k ∧ Blk wr w.heap.size 22 (ints .u32 (cpy zs k)) ∧ Below w.heap.size w wr) (fun i _ => zs.length - (intOf i).toNat)
    case atStart => exact ⟨0, Nat.zero_le _, rfl, by rw [cpy_zero]; exact HB.out.1, HB.out.2⟩
    case round =>
      obtain ⟨k, hk, rfl, hB, hbel⟩ := hrel
      rcases (show k = zs.length ∨ k < zs.length by omega) with rfl | hlt
      · rw [cpy_end] at hB
        have HF := Lib.hid (And.intro hB hbel)
        clear hB hbel
        go_wp2
        go_ret
        exact ⟨_, _, rfl, .inr ⟨_, rfl, Nat.le_refl _, HF.out.1⟩, HF.out.2⟩
      · obtain ⟨b, off, hx, hblt, hc⟩ := HI.out.at hlt
        cases hx
        have hc' := (hbel.cell (p := ⟨b, off + k, none⟩) hblt).trans hc
        have hcl := cpy_length zs k hk
        have hs := hB.int (i := k) (by omega)
        have hf := hB.free k
        have hB2 := hB.put k (nth zs k)
        rw [cpy_step zs k hlt] at hB2
        have HN := Lib.hid (And.intro hB2 (hbel.setCell (p := ⟨w.heap.size, k, none⟩) (Nat.le_refl _) (.int .u32 (nth zs k))))
        clear hB hbel hB2 hc hcl
        go_wp2
        go_roundw
        case rel => exact ⟨k + 1, by omega, by go_num, HN.out.1, HN.out.2⟩
        case measure => simp [intOf]; omega


theorem ownsRow_below {w w' : World} {base : Nat} {e : TypeId} {size : Nat} {v : Value} {n : Nat} {xs : List Value} (h : w.ownsRow base e size v n xs) (hb : Below w.heap.size w w') : w'.ownsRow base e size v n xs := by
  obtain ⟨h1, h2⟩ := h
  refine ⟨h1, ?_⟩
  rcases h2 with h | ⟨g, cap, cur, rfl, a1, a2, a3⟩
  · exact .inl h
  · exact .inr ⟨g, cap, cur, rfl, a1, (hb.block g (blk_lt a2)).trans a2, a3⟩
theorem news_three (w : World) (t : TypeId) (x y z : Value) : ∀ j u, [x, y, z][j]? = some u → (w.alloc (.cells #[x, y, z] t)).cell? ((⟨w.heap.size, 0, none⟩ : Addr).add j) = some u := by
  intro j u h
  have hadd : (⟨w.heap.size, 0, none⟩ : Addr).add j = ⟨w.heap.size, j, none⟩ := by unfold Addr.add; split <;> simp_all
  rw [hadd, blk_cell (heap_alloc_new w _) j, ← h]; simp

/-- the ranges' block: three cells to a range -/
def TriC (cur : Array Value) (R : Rg) (n : Nat) : Prop := ∀ k, k < n → cur[k * 3]? = some (.int .u32 (nth R.S k)) ∧ cur[k * 3 + 1]? = some (.int .u32 (nth R.B k)) ∧ cur[k * 3 + 2]? = some (.int .u32 (nth R.E k))
def Tri (w : World) (g : Nat) (R : Rg) : Prop := ∃ cur : Array Value, Blk w g 65 cur ∧ TriC cur R R.S.length
theorem Tri.lt {w : World} {g : Nat} {R : Rg} (h : Tri w g R) : g < w.heap.size := by obtain ⟨cur, hb, _⟩ := h; exact hb.lt
theorem Tri.kept {w w' : World} {g : Nat} {R : Rg} (h : Tri w g R) (hb : Below w.heap.size w w') : Tri w' g R := by obtain ⟨cur, h1, h2⟩ := h; exact ⟨cur, h1.kept hb, h2⟩

theorem tri_snoc {cur : Array Value} {R : Rg} {s p : Int} (hev : R.even) (hsz : cur.size = R.S.length * 3) (h : TriC cur R R.S.length) (xs : Array Value) (hx : xs.toList.take ((R.S.length + 1) * 3) = cur.toList ++ [.int .u32 s, .int .u32 p, .int .u32 (p + 1)]) :
    TriC xs ⟨R.S ++ [s], R.B ++ [p], R.E ++ [p + 1]⟩ (R.S.length + 1) := by
  obtain ⟨eB, eE⟩ := hev
  intro k hk
  have at' : ∀ i, i < (R.S.length + 1) * 3 → xs[i]? = (cur.toList ++ [.int .u32 s, .int .u32 p, .int .u32 (p + 1)])[i]? := by
    intro i hi
    rw [← hx, List.getElem?_take, if_pos hi]; simp
  rw [at' _ (by omega), at' _ (by omega), at' _ (by omega)]
  show _ = some (Value.int .u32 (nth (R.S ++ [s]) k)) ∧ _ = some (Value.int .u32 (nth (R.B ++ [p]) k)) ∧ _ = some (Value.int .u32 (nth (R.E ++ [p + 1]) k))
  rcases (show k = R.S.length ∨ k < R.S.length by omega) with rfl | hlt
  · have nS : nth (R.S ++ [s]) R.S.length = s := nth_app_r _ _
    have nB : nth (R.B ++ [p]) R.S.length = p := by rw [← eB]; exact nth_app_r _ _
    have nE : nth (R.E ++ [p + 1]) R.S.length = p + 1 := by rw [← eE]; exact nth_app_r _ _
    rw [nS, nB, nE]
    rw [List.getElem?_append_right (by simp; omega), List.getElem?_append_right (by simp; omega), List.getElem?_append_right (by simp; omega)]
    simp only [Array.length_toList, hsz]
    refine ⟨?_, ?_, ?_⟩
    · rw [show R.S.length * 3 - R.S.length * 3 = 0 from by omega]; rfl
    · rw [show R.S.length * 3 + 1 - R.S.length * 3 = 1 from by omega]; rfl
    · rw [show R.S.length * 3 + 2 - R.S.length * 3 = 2 from by omega]; rfl
  · rw [nth_app_l _ _ _ hlt, nth_app_l _ _ _ (by omega), nth_app_l _ _ _ (by omega)]
    rw [List.getElem?_append_left (by simp; omega), List.getElem?_append_left (by simp; omega), List.getElem?_append_left (by simp; omega)]
    simpa using h k hlt
theorem tri_set {cur : Array Value} {R : Rg} {v : Int} {m : Nat} (hev : R.even) (hm : m < R.S.length) (h : TriC cur R R.S.length) :
    TriC (cur.setIfInBounds (m * 3 + 2) (.int .u32 v)) ⟨R.S, R.B, R.E.set m v⟩ R.S.length := by
  obtain ⟨eB, eE⟩ := hev
  intro k hk
  obtain ⟨h1, h2, h3⟩ := h k hk
  have sm : m * 3 + 2 < cur.size := (Array.getElem?_eq_some_iff.1 (h m hm).2.2).1
  show _ = some (Value.int .u32 (nth R.S k)) ∧ _ = some (Value.int .u32 (nth R.B k)) ∧ _ = some (Value.int .u32 (nth (R.E.set m v) k))
  rw [nth_set _ _ _ _ (by omega)]
  simp only [Array.getElem?_setIfInBounds]
  rw [if_neg (by omega), if_neg (by omega)]
  refine ⟨h1, h2, ?_⟩
  by_cases c : k = m
  · subst c; rw [if_pos rfl, if_pos rfl, if_pos sm]
  · rw [if_neg (by omega), if_neg c]; exact h3

theorem info65 : (Try.prog.info? 65).map (fun i => (i.zero, i.size, i.bytes)) = some (some (.agg (ints .u32 (List.replicate 3 0))), 3, 12) := by kernel_rfl
def Ext (g : Nat) (R : Rg) (w : World) (e : Ending) (w' : World) : Prop :=
  ∃ g' cap, e = .returned (.slice (some ⟨g', 0, none⟩) R.S.length cap) ∧ g ≤ g' ∧ Tri w' g' R ∧ w.grownBy w' (some g)
theorem app_any (g n : Nat) (R : Rg) (s p : Int) (w : World) (cur : Array Value) (hn : R.S.length = n) (hev : R.even) (hb : Blk w g 65 cur) (hsz : cur.size = n * 3) (hT : TriC cur R n) (hm : n ≤ 4096) (hp0 : 0 ≤ p) (hp1 : p < 4294967295) :
    Calls Try.prog 30 #[.slice (some ⟨g, 0, none⟩) n n, .int .u32 s, .int .u32 p] w (Ext g (R.step s p) w) := by
  subst hn
  obtain ⟨i0, hi, hz0, hz1, hz2⟩ := info_parts info65
  have hw : IntKind.u32.wrap (p + 1) = p + 1 := by simp [IntKind.wrap, IntKind.bits, IntKind.signed]; omega
  by_cases h : 0 < R.S.length ∧ nth R.S (R.S.length - 1) = s ∧ nth R.E (R.S.length - 1) = p
  · have e : R.step s p = ⟨R.S, R.B, R.E.set (R.S.length - 1) (p + 1)⟩ := by unfold Rg.step; rw [if_pos h]
    obtain ⟨h0, h1, h2⟩ := h
    obtain ⟨m, hm1⟩ : ∃ m, R.S.length = m + 1 := ⟨R.S.length - 1, by omega⟩
    have HT := Lib.hid (tri_set (v := p + 1) (m := m) hev (by omega) hT)
    have HS := Lib.hid (hb.set (m * 3 + 2) (.int .u32 (p + 1)))
    have HG := Lib.hid (gb_set (gb_refl w (some g)) (m * 3 + 2) none (.int .u32 (p + 1)))
    have hc := hT m (by omega)
    have c0 := (hb.cell (m * 3)).trans hc.1
    have c2 := (hb.cell (m * 3 + 2)).trans hc.2.2
    have f2 := hb.free (m * 3 + 2)
    rw [hm1] at h1 h2
    simp only [Nat.add_sub_cancel] at h1 h2
    rw [h1] at c0
    rw [h2] at c2
    rw [hm1, Nat.add_sub_cancel] at e
    have E := Lib.hid e
    have HL := Lib.hid hm1
    have hmm : m < 4096 := by omega
    have hwm : wrap64 (m : Int) = (m : Int) := by unfold wrap64; omega
    rw [hm1]
    clear hb hT hc e hsz hm1 h1 h2 h0 hev hm
    go_enter Try.func30, Try.ntmps30
    go_wp2
    go_ret
    unfold Ext
    rw [E.out]
    exact ⟨g, m + 1, by rw [HL.out]; rfl, Nat.le_refl _, ⟨_, HS.out, HT.out⟩, HG.out⟩
  · have e : R.step s p = ⟨R.S ++ [s], R.B ++ [p], R.E ++ [p + 1]⟩ := by unfold Rg.step; rw [if_neg h]
    have hown : w.ownsRow g 65 3 (.slice (some ⟨g, 0, none⟩) R.S.length R.S.length) R.S.length cur.toList :=
      ⟨by rw [Array.length_toList, hsz], .inr ⟨g, R.S.length, cur, rfl, Nat.le_refl _, hb, Nat.le_refl _, by unfold maxLen; omega, hsz, List.take_of_length_le (by rw [Array.length_toList, hsz]; exact Nat.le_refl _)⟩⟩
    have E := Lib.hid e
    have K := Lib.hid (And.intro hev (And.intro hsz hT))
    have KO := Lib.hid hown
    have hgl := hb.lt
    have fin : ∀ v' w3, w3.ownsRow g 65 3 v' (R.S.length + 1) (cur.toList ++ [.int .u32 s, .int .u32 p, .int .u32 (p + 1)]) → w.grownBy w3 (some g) → v' ≠ .slice none 0 0 → Ext g (R.step s p) w (.returned v') w3 := by
      intro v' w3 ho hg hv
      rcases ho.2 with ⟨h, _⟩ | ⟨g', cap, cur', rfl, a1, a2, a3, a4, a5, a6⟩
      · exact absurd h hv
      · unfold Ext
        rw [E.out]
        refine ⟨g', cap, ?_, a1, ⟨cur', a2, ?_⟩, hg⟩
        · simp
        · have := tri_snoc K.out.1 K.out.2.1 K.out.2.2 cur' a6
          simpa using this
    have F := Lib.hid fin
    clear e hown fin
    rcases (show R.S.length = 0 ∨ ∃ m, R.S.length = m + 1 from by rcases R.S.length with _ | m; exact .inl rfl; exact .inr ⟨m, rfl⟩) with h0 | ⟨m, hm1⟩
    · have HL := Lib.hid h0
      rw [h0] at KO F
      rw [h0]
      clear h hev hT hb hsz h0 K
      go_enter Try.func30, Try.ntmps30
      go_wp2_with (at_builtin; refine wpList_append_own _ rfl _ _ 63 rfl g 65 i0 _ 3 12 Try.underlying63 hi hz0 hz1 hz2 rfl (by decide) _ _ _ rfl (KO.out.alloc _) ⟨w.heap.size, 0, none⟩ 1 1 [.int .u32 s, .int .u32 p, .int .u32 (p + 1)] rfl rfl (news_three _ _ _ _ _) (fun x hx => by simp at hx; rcases hx with rfl | rfl | rfl <;> rfl) (by unfold maxLen; omega) (by omega) (by simp; omega) ?_; intro v' w3 hown' hgrow3 hnil3)
      go_ret
      exact F.out _ _ hown' (gb_trans (World.grownBy_alloc _ _ _) hgrow3) (fun h => by have := (hnil3.1 h).2; omega)
    · have HL := Lib.hid hm1
      have hc := hT m (by omega)
      have c0 := (hb.cell (m * 3)).trans hc.1
      have c2 := (hb.cell (m * 3 + 2)).trans hc.2.2
      have hmm : m < 4096 := by omega
      have hwm : wrap64 (m : Int) = (m : Int) := by unfold wrap64; omega
      rw [hm1] at KO F h
      simp only [Nat.add_sub_cancel] at h
      rw [hm1]
      clear hev hT hb hsz hm1 K hm hc
      have h' : (nth R.S m == s) = false ∨ ((nth R.S m == s) = true ∧ (nth R.E m == p) = false) := by
        by_cases c1 : nth R.S m = s
        · right; refine ⟨by simpa using c1, ?_⟩
          simp
          intro c2
          exact h ⟨by omega, c1, c2⟩
        · left; simpa using c1
      clear h
      rcases h' with h1 | ⟨h1, h2⟩
      all_goals
        go_enter Try.func30, Try.ntmps30
        go_wp2_with (at_builtin; refine wpList_append_own _ rfl _ _ 63 rfl g 65 i0 _ 3 12 Try.underlying63 hi hz0 hz1 hz2 rfl (by decide) _ _ _ rfl (KO.out.alloc _) ⟨w.heap.size, 0, none⟩ 1 1 [.int .u32 s, .int .u32 p, .int .u32 (p + 1)] rfl rfl (news_three _ _ _ _ _) (fun x hx => by simp at hx; rcases hx with rfl | rfl | rfl <;> rfl) (by unfold maxLen; omega) (by omega) (by simp; omega) ?_; intro v' w3 hown' hgrow3 hnil3)
        go_ret
        exact F.out _ _ hown' (gb_trans (World.grownBy_alloc _ _ _) hgrow3) (fun h => by have := (hnil3.1 h).2; omega)
/-- three fresh slices that read as R -/
def Unp (R : Rg) (w : World) (e : Ending) (w' : World) : Prop :=
  ∃ g1 g2 g3, e = .returned (.tuple #[.slice (some ⟨g1, 0, none⟩) R.S.length R.S.length, .slice (some ⟨g2, 0, none⟩) R.S.length R.S.length, .slice (some ⟨g3, 0, none⟩) R.S.length R.S.length]) ∧
    In .u32 w' (some ⟨g1, 0, none⟩) R.S ∧ In .u32 w' (some ⟨g2, 0, none⟩) R.B ∧ In .u32 w' (some ⟨g3, 0, none⟩) R.E ∧ Below w.heap.size w w'
set_option maxHeartbeats 1000000 in
theorem unpack_any (g cap n : Nat) (R : Rg) (w : World) (hn : R.S.length = n) (hev : R.even) (hT : Tri w g R) (hm : n ≤ 8192) :
    Calls Try.prog 29 #[.slice (some ⟨g, 0, none⟩) n cap] w (Unp R w) := by
  have HN := Lib.hid hn
  have HE := Lib.hid hev
  have HT := Lib.hid hT
  have hgl := hT.lt
  clear hn hev hT
  go_enter Try.func29, Try.ntmps29
  go_wp2_with (first
    | (at_make; refine wpList_make_ints _ rfl (.tmp 10) (.tmp 10) 32 rfl 22 .u32 4 Try.underlying32 clone_info n rfl rfl (by omega) (by unfold maxLen; omega) ?_; intro w1 hb1 hgr1)
    | (at_make; refine wpList_make_ints _ rfl (.tmp 13) (.tmp 13) 32 rfl 22 .u32 4 Try.underlying32 clone_info n rfl rfl (by omega) (by unfold maxLen; omega) ?_; intro w2 hb2 hgr2)
    | (at_make; refine wpList_make_ints _ rfl (.tmp 16) (.tmp 16) 32 rfl 22 .u32 4 Try.underlying32 clone_info n rfl rfl (by omega) (by unfold maxLen; omega) ?_; intro w3 hb3 hgr3))
  have z1 := hgr1.size
  have z2 := hgr2.size
  have z3 := hgr3.size
  have y1 := hb1.lt
  have y2 := hb2.lt
  have lB : R.B.length = n := HE.out.1.trans HN.out
  have lE : R.E.length = n := HE.out.2.trans HN.out
  have Q := Lib.hid (show Blk w3 w.heap.size 22 (ints .u32 (cpy R.S 0)) ∧ Blk w3 w1.heap.size 22 (ints .u32 (cpy R.B 0)) ∧ Blk w3 w2.heap.size 22 (ints .u32 (cpy R.E 0)) ∧ Below w.heap.size w w3 from by
    refine ⟨?_, ?_, ?_, ?_⟩
    · rw [cpy_zero, HN.out]; exact (hb1.gb hgr2 (by simp)).gb hgr3 (by simp)
    · rw [cpy_zero, lB]; exact hb2.gb hgr3 (by simp)
    · rw [cpy_zero, lE]; exact hb3
    · exact (((Below.refl _ w).grown hgr1 (Nat.le_refl _) (fun k h => by cases h)).grown hgr2 (by omega) (fun k h => by cases h)).grown hgr3 (by omega) (fun k h => by cases h))
  have HL := Lib.hid (And.intro lB lE)
  clear hb1 hb2 hb3 hgr1 hgr2 hgr3 lB lE
  go_loopw [8, 20] (fun _ x wr => ∃ k : Nat, k ≤ n ∧ x = .int .i64 k ∧ Blk wr w.heap.size 22 (ints .u32 (cpy R.S k)) ∧ Blk wr w1.heap.size 22 (ints .u32 (cpy R.B k)) ∧ Blk wr w2.heap.size 22 (ints .u32 (cpy R.E k)) ∧ Below w.heap.size w wr) (fun _ x _ => n - (intOf x).toNat)
  case atStart => exact ⟨0, Nat.zero_le _, rfl, Q.out⟩
  case round =>
    obtain ⟨k, hk, rfl, h1, h2, h3, hbel⟩ := hrel
    rcases (show k = n ∨ k < n by omega) with rfl | hlt
    · have e1 := cpy_end R.S
      have e2 := cpy_end R.B
      have e3 := cpy_end R.E
      rw [HN.out] at e1
      rw [HL.out.1] at e2
      rw [HL.out.2] at e3
      rw [e1] at h1
      rw [e2] at h2
      rw [e3] at h3
      have HZ := Lib.hid (And.intro h1 (And.intro h2 (And.intro h3 hbel)))
      clear h1 h2 h3 hbel e1 e2 e3
      go_wp2
      go_ret3
      exact ⟨_, _, _, by rw [HN.out]; rfl, HZ.out.1.in, HZ.out.2.1.in, HZ.out.2.2.1.in, HZ.out.2.2.2⟩
    · obtain ⟨cur, hbk, hcs⟩ := HT.out
      have hc := hcs k (by rw [HN.out]; exact hlt)
      have hbk' := hbk.below hbel hgl
      have q0 := (hbk'.cell (k * 3)).trans hc.1
      have q1 := (hbk'.cell (k * 3 + 1)).trans hc.2.1
      have q2 := (hbk'.cell (k * 3 + 2)).trans hc.2.2
      have cl1 := cpy_length R.S k (by rw [HN.out]; omega)
      have cl2 := cpy_length R.B k (by rw [HL.out.1]; omega)
      have cl3 := cpy_length R.E k (by rw [HL.out.2]; omega)
      rw [HN.out] at cl1
      rw [HL.out.1] at cl2
      rw [HL.out.2] at cl3
      have t0 := h1.int (i := k) (by omega)
      have t1 := h2.int (i := k) (by omega)
      have t2 := h3.int (i := k) (by omega)
      have f0 := h1.free k
      have f1 := h2.free k
      have f2 := h3.free k
      have ng1 : ¬ g = w.heap.size := by omega
      have ng2 : ¬ g = w1.heap.size := by omega
      have ng3 : ¬ g = w2.heap.size := by omega
      have n12 : ¬ w1.heap.size = w.heap.size := by omega
      have n13 : ¬ w2.heap.size = w.heap.size := by omega
      have n23 : ¬ w2.heap.size = w1.heap.size := by omega
      have p1 := h1.put k (nth R.S k)
      rw [cpy_step _ k (by rw [HN.out]; exact hlt)] at p1
      have p2 := (show Blk (wr.setCell ⟨w.heap.size, k, none⟩ (.int .u32 (nth R.S k))) w1.heap.size 22 _ from blk_set_ne h2 n12 _ _ _).put k (nth R.B k)
      rw [cpy_step _ k (by rw [HL.out.1]; exact hlt)] at p2
      have p3 := (show Blk ((wr.setCell ⟨w.heap.size, k, none⟩ (.int .u32 (nth R.S k))).setCell ⟨w1.heap.size, k, none⟩ (.int .u32 (nth R.B k))) w2.heap.size 22 _ from blk_set_ne (blk_set_ne h3 n13 _ _ _) n23 _ _ _).put k (nth R.E k)
      rw [cpy_step _ k (by rw [HL.out.2]; exact hlt)] at p3
      have HZ := Lib.hid (show Blk (((wr.setCell ⟨w.heap.size, k, none⟩ (.int .u32 (nth R.S k))).setCell ⟨w1.heap.size, k, none⟩ (.int .u32 (nth R.B k))).setCell ⟨w2.heap.size, k, none⟩ (.int .u32 (nth R.E k))) w.heap.size 22 (ints .u32 (cpy R.S (k + 1))) ∧
          Blk (((wr.setCell ⟨w.heap.size, k, none⟩ (.int .u32 (nth R.S k))).setCell ⟨w1.heap.size, k, none⟩ (.int .u32 (nth R.B k))).setCell ⟨w2.heap.size, k, none⟩ (.int .u32 (nth R.E k))) w1.heap.size 22 (ints .u32 (cpy R.B (k + 1))) ∧
          Blk (((wr.setCell ⟨w.heap.size, k, none⟩ (.int .u32 (nth R.S k))).setCell ⟨w1.heap.size, k, none⟩ (.int .u32 (nth R.B k))).setCell ⟨w2.heap.size, k, none⟩ (.int .u32 (nth R.E k))) w2.heap.size 22 (ints .u32 (cpy R.E (k + 1))) ∧
          Below w.heap.size w (((wr.setCell ⟨w.heap.size, k, none⟩ (.int .u32 (nth R.S k))).setCell ⟨w1.heap.size, k, none⟩ (.int .u32 (nth R.B k))).setCell ⟨w2.heap.size, k, none⟩ (.int .u32 (nth R.E k))) from
        ⟨blk_set_ne (blk_set_ne p1 (fun e => n12 e.symm) _ _ _) (fun e => n13 e.symm) _ _ _, blk_set_ne p2 (fun e => n23 e.symm) _ _ _, p3,
          ((hbel.setCell (p := ⟨w.heap.size, k, none⟩) (Nat.le_refl _) _).setCell (p := ⟨w1.heap.size, k, none⟩) (by simp; omega) _).setCell (p := ⟨w2.heap.size, k, none⟩) (by simp; omega) _⟩)
      clear p1 p2 p3 h1 h2 h3 hbel cl1 cl2 cl3 hbk hbk' hcs hc
      go_wp2
      go_roundw
      case rel => exact ⟨k + 1, by omega, by go_num, HZ.out⟩
      case measure => simp [intOf]; omega
theorem step_length (R : Rg) (s p : Int) : (R.step s p).S.length ≤ R.S.length + 1 := by
  unfold Rg.step; split <;> simp
theorem step_even {R : Rg} (h : R.even) (s p : Int) : (R.step s p).even := by
  obtain ⟨h1, h2⟩ := h
  unfold Rg.step
  split
  · exact ⟨h1, by simp [h2]⟩
  · exact ⟨by simp [h1], by simp [h2]⟩
/-- the first k triples are in place -/
def Trip (R : Rg) (fl : List Int) (n k : Nat) : Prop := fl.length = 3 * n ∧ ∀ m, m < k → nth fl (m * 3) = nth R.S m ∧ nth fl (m * 3 + 1) = nth R.B m ∧ nth fl (m * 3 + 2) = nth R.E m
theorem trip_step {R : Rg} {fl : List Int} {n k : Nat} (h : Trip R fl n k) (hk : k < n) : Trip R (((fl.set (k * 3) (nth R.S k)).set (k * 3 + 1) (nth R.B k)).set (k * 3 + 2) (nth R.E k)) n (k + 1) := by
  obtain ⟨h1, h2⟩ := h
  refine ⟨by simp [h1], fun m hm => ?_⟩
  have e : ∀ x, nth (((fl.set (k * 3) (nth R.S k)).set (k * 3 + 1) (nth R.B k)).set (k * 3 + 2) (nth R.E k)) x = if x = k * 3 + 2 then nth R.E k else if x = k * 3 + 1 then nth R.B k else if x = k * 3 then nth R.S k else nth fl x := by
    intro x
    rw [nth_set _ _ _ _ (by simp; omega), nth_set _ _ _ _ (by simp; omega), nth_set _ _ _ _ (by omega)]
  simp only [e]
  by_cases c : m = k
  · subst c
    refine ⟨?_, ?_, ?_⟩
    · rw [if_neg (by omega), if_neg (by omega), if_pos rfl]
    · rw [if_neg (by omega), if_pos rfl]
    · rw [if_pos rfl]
  · have := h2 m (by omega)
    refine ⟨?_, ?_, ?_⟩ <;> rw [if_neg (by omega), if_neg (by omega), if_neg (by omega)]
    · exact this.1
    · exact this.2.1
    · exact this.2.2
theorem trip_tri {R : Rg} {fl : List Int} {n : Nat} (h : Trip R fl n n) : TriC (ints .u32 fl) R n := by
  obtain ⟨h1, h2⟩ := h
  intro k hk
  obtain ⟨a, b, c⟩ := h2 k hk
  rw [ints_at _ _ _ (by omega), ints_at _ _ _ (by omega), ints_at _ _ _ (by omega), a, b, c]
  exact ⟨rfl, rfl, rfl⟩

set_option maxHeartbeats 1000000 in
theorem zz_any (a0 a1 a2 : Option Addr) (c0 c1 c2 n : Nat) (R : Rg) (s p : Int) (w : World) (hn : R.S.length = n) (hev : R.even) (h0 : In .u32 w a0 R.S) (h1 : In .u32 w a1 R.B) (h2 : In .u32 w a2 R.E) (hm : n ≤ 4096) (hp0 : 0 ≤ p) (hp1 : p < 4294967295) :
    Calls Try.prog 23 #[.slice a0 n c0, .slice a1 n c1, .slice a2 n c2, .int .u32 s, .int .u32 p] w (Unp (R.step s p) w) := by
  have HI := Lib.hid (And.intro h0 (And.intro h1 h2))
  have HN := Lib.hid hn
  have HE := Lib.hid hev
  have lB := hev.1.trans hn
  have lE := hev.2.trans hn
  have HL := Lib.hid (And.intro lB lE)
  clear h0 h1 h2 hn hev lB lE
  go_enter Try.func23, Try.ntmps23
  go_wp2_with (at_make; refine wpList_make_flat _ rfl _ _ 63 rfl 65 .u32 3 12 (by decide) Try.underlying63 info65 n rfl rfl (by omega) (by unfold maxLen; omega) ?_; intro w1 hb hgr)
  have hb1 : Below w.heap.size w w1 := (Below.refl _ w).grown hgr (Nat.le_refl _) (fun k h => by cases h)
  have HB := Lib.hid (And.intro hb hb1)
  clear hb hgr hb1
  go_loopw [14, 20] (fun _ x wr => ∃ (k : Nat) (fl : List Int), k ≤ n ∧ x = .int .i64 k ∧ Blk wr w.heap.size 65 (ints .u32 fl) ∧ Trip R fl n k ∧ Below w.heap.size w wr) (fun _ x _ => n - (intOf x).toNat)
  case atStart => exact ⟨0, _, Nat.zero_le _, rfl, HB.out.1, ⟨by simp; omega, fun m hm => by omega⟩, HB.out.2⟩
  case round =>
    obtain ⟨k, fl, hk, rfl, hBk, hT, hbel⟩ := hrel
    rcases (show k = n ∨ k < n by omega) with rfl | hlt
    · have HF := Lib.hid (And.intro hBk (And.intro hT hbel))
      have hfl := hT.1
      have z1 := hbel.size
      clear hBk hbel hT HB
      go_wp2_with fail
      refine (app_any w.heap.size k R s p _ _ HN.out HE.out HF.out.1 (by rw [ints_size, hfl]; omega) (trip_tri HF.out.2.1) hm hp0 hp1).mono ?_
      rintro e w2 ⟨g', cap, rfl, hg', hT2, hg2⟩
      have N2 : Below w.heap.size w w2 := below_gb HF.out.2.2 hg2 z1 (Nat.le_refl _)
      have HF2 := Lib.hid (And.intro hT2 N2)
      have z2 := N2.size
      have ll := step_length R s p
      rw [HN.out] at ll
      clear hT2 hg2 N2
      go_wp2_with fail
      refine (unpack_any g' cap _ (R.step s p) _ rfl (step_even HE.out s p) HF2.out.1 (by omega)).mono ?_
      rintro e w3 ⟨g1, g2, g3, rfl, i1, i2, i3, b3⟩
      have HZ := Lib.hid (And.intro i1 (And.intro i2 (And.intro i3 (below_two HF2.out.2 b3))))
      clear i1 i2 i3 b3
      go_wp2
      go_ret3
      exact ⟨_, _, _, rfl, HZ.out⟩
    · obtain ⟨b0, o0, hx0, hlt0, hc0⟩ := HI.out.1.at (i := k) (by rw [HN.out]; exact hlt)
      obtain ⟨b1, o1, hx1, hlt1, hc1⟩ := HI.out.2.1.at (i := k) (by rw [HL.out.1]; exact hlt)
      obtain ⟨b2, o2, hx2, hlt2, hc2⟩ := HI.out.2.2.at (i := k) (by rw [HL.out.2]; exact hlt)
      subst hx0 hx1 hx2
      have d0 := (hbel.cell (p := ⟨b0, o0 + k, none⟩) hlt0).trans hc0
      have d1 := (hbel.cell (p := ⟨b1, o1 + k, none⟩) hlt1).trans hc1
      have d2 := (hbel.cell (p := ⟨b2, o2 + k, none⟩) hlt2).trans hc2
      have hfl := hT.1
      have e0 := hBk.int (i := k * 3) (by omega)
      have e1 := hBk.int (i := k * 3 + 1) (by omega)
      have e2 := hBk.int (i := k * 3 + 2) (by omega)
      have f0 := hBk.free (k * 3)
      have f1 := hBk.free (k * 3 + 1)
      have f2 := hBk.free (k * 3 + 2)
      have HM := Lib.hid (And.intro hBk (And.intro hT hbel))
      have ne0 : ¬ b0 = w.heap.size := by omega
      have ne1 : ¬ b1 = w.heap.size := by omega
      have ne2 : ¬ b2 = w.heap.size := by omega
      have iA : (k : Int) < (n : Int) := by omega
      have i0 : (0 : Int) ≤ (k : Int) := by omega
      clear hBk hT hbel hc0 hc1 hc2 hfl
      go_wp2
      go_region
      clear d0 d1 d2 e0 e1 e2 f0 f1 f2
      go_wp2
      go_roundw
      case rel => exact ⟨k + 1, _, by omega, by go_num, (((HM.out.1.put (k * 3) (nth R.S k)).put (k * 3 + 1) (nth R.B k)).put (k * 3 + 2) (nth R.E k)).drew, trip_step HM.out.2.1 hlt, (((HM.out.2.2.setCell (Nat.le_refl _) _).setCell (Nat.le_refl _) _).setCell (Nat.le_refl _) _).drew⟩
      case measure => simp [intOf]; omega
end Go.Proofs.Ytbicjmaogbaldab
