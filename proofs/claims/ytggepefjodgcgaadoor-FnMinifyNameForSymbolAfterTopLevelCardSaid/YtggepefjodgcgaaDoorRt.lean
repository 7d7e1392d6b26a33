/-
  The clones, the root of a chain of links, the table as FollowSymbols wants it. No statement of the seat is proved here.
-/
import Derived.Test.YtggepefjodgcgaaDoorNm
import Derived.Lib.SliceRun
namespace Go.Proofs.YtggepefjodgcgaaDoor
open Go.RowKit
set_option linter.unusedVariables false
set_option linter.unusedSimpArgs false

theorem c8_info : (Tryd.prog.info? 5).map (fun i => (i.zero, i.size, i.bytes)) = some (some (.int .u8 0), 1, 1) := by kernel_rfl
theorem c8_any (ao : Option Addr) (cap : Nat) (zs : List Int) (w : World) (hin : In .u8 w ao zs) (hl : zs.length ≤ 1048576) :
    Calls Tryd.prog 7 #[.slice ao zs.length cap] w (Cloned .u8 5 w zs) := by
  have hnil := fun (w : World) => Lib.run_eql_slice_nil (P := Tryd.prog) w 23 5 ao zs.length cap 0 0 Tryd.underlying23
  rcases ao with _ | x
  · have hz : zs = [] := by
      rcases hin with h | ⟨b, off, h, _⟩
      · exact h
      · cases h
    subst hz
    clear hin hl
    simp only [List.length_nil, Option.isNone_none] at hnil
    go_enter Tryd.func7, Tryd.ntmps7
    go_wp2
    go_ret
    exact ⟨_, _, rfl, .inl rfl, Below.refl _ _⟩
  · have HI := Lib.hid hin
    clear hin
    go_enter Tryd.func7, Tryd.ntmps7
    go_wp2_with (at_make; refine wpList_make_ints _ rfl _ _ 23 rfl 5 .u8 1 Tryd.underlying23 c8_info zs.length rfl rfl (by omega) (by unfold maxLen; omega) ?_; intro w1 hb hgr)
    have hb1 : Below w.heap.size w w1 := (Below.refl _ w).grown hgr (Nat.le_refl _) (fun k h => by cases h)
    have HB := Lib.hid (And.intro hb hb1)
    clear hb hgr hb1
    go_loopw [4] (fun i wr => ∃ k : Nat, k ≤ zs.length ∧ i = .int .i64 k ∧ Blk wr w.heap.size 5 (ints .u8 (cpy zs k)) ∧ Below w.heap.size w wr) (fun i _ => zs.length - (intOf i).toNat)
    case atStart => exact ⟨0, Nat.zero_le _, rfl, by rw [cpy_zero]; exact HB.out.1, HB.out.2⟩
    case round =>
      obtain ⟨k, hk, rfl, hB, hbel⟩ := hrel
      rcases (show k = zs.length ∨ k < zs.length by omega) with rfl | hlt
      · rw [cpy_end] at hB
        have HF := Lib.hid (And.intro hB hbel)
        clear hB hbel
        go_wp2
        go_ret
        exact ⟨_, _, rfl, .inr ⟨_, rfl, Nat.le_refl _, HF.out.1⟩, HF.out.2⟩
      · obtain ⟨b, off, hx, hblt, hc⟩ := HI.out.at hlt
        cases hx
        have hc' := (hbel.cell (p := ⟨b, off + k, none⟩) hblt).trans hc
        have hcl := cpy_length zs k hk
        have hs := hB.int (i := k) (by omega)
        have hf := hB.free k
        have hB2 := hB.put k (nth zs k)
        rw [cpy_step zs k hlt] at hB2
        have HN := Lib.hid (And.intro hB2 (hbel.setCell (p := ⟨w.heap.size, k, none⟩) (Nat.le_refl _) (.int .u8 (nth zs k))))
        clear hB hbel hB2 hc hcl
        go_wp2
        go_roundw
        case rel => exact ⟨k + 1, by omega, by go_num, HN.out.1, HN.out.2⟩
        case measure => simp [intOf]; omega

theorem cu_info : (Tryd.prog.info? 25).map (fun i => (i.zero, i.size, i.bytes)) = some (some (.int .u32 0), 1, 4) := by kernel_rfl
theorem cu_any (ao : Option Addr) (cap : Nat) (zs : List Int) (w : World) (hin : In .u32 w ao zs) (hl : zs.length ≤ 1048576) :
    Calls Tryd.prog 8 #[.slice ao zs.length cap] w (Cloned .u32 25 w zs) := by
  have hnil := fun (w : World) => Lib.run_eql_slice_nil (P := Tryd.prog) w 24 25 ao zs.length cap 0 0 Tryd.underlying24
  rcases ao with _ | x
  · have hz : zs = [] := by
      rcases hin with h | ⟨b, off, h, _⟩
      · exact h
      · cases h
    subst hz
    clear hin hl
    simp only [List.length_nil, Option.isNone_none] at hnil
    go_enter Tryd.func8, Tryd.ntmps8
    go_wp2
    go_ret
    exact ⟨_, _, rfl, .inl rfl, Below.refl _ _⟩
  · have HI := Lib.hid hin
    clear hin
    go_enter Tryd.func8, Tryd.ntmps8
    go_wp2_with (at_make; refine wpList_make_ints _ rfl _ _ 24 rfl 25 .u32 4 Tryd.underlying24 cu_info zs.length rfl rfl (by omega) (by unfold maxLen; omega) ?_; intro w1 hb hgr)
    have hb1 : Below w.heap.size w w1 := (Below.refl _ w).grown hgr (Nat.le_refl _) (fun k h => by cases h)
    have HB := Lib.hid (And.intro hb hb1)
    clear hb hgr hb1
    go_loopw [4] (fun i wr => ∃ k : Nat, k ≤ zs.length ∧ i = .int .i64 k ∧ Blk wr w.heap.size 25 (ints .u32 (cpy zs k)) ∧ Below w.heap.size w wr) (fun i _ => zs.length - (intOf i).toNat)
    case atStart => exact ⟨0, Nat.zero_le _, rfl, by rw [cpy_zero]; exact HB.out.1, HB.out.2⟩
    case round =>
      obtain ⟨k, hk, rfl, hB, hbel⟩ := hrel
      rcases (show k = zs.length ∨ k < zs.length by omega) with rfl | hlt
      · rw [cpy_end] at hB
        have HF := Lib.hid (And.intro hB hbel)
        clear hB hbel
        go_wp2
        go_ret
        exact ⟨_, _, rfl, .inr ⟨_, rfl, Nat.le_refl _, HF.out.1⟩, HF.out.2⟩
      · obtain ⟨b, off, hx, hblt, hc⟩ := HI.out.at hlt
        cases hx
        have hc' := (hbel.cell (p := ⟨b, off + k, none⟩) hblt).trans hc
        have hcl := cpy_length zs k hk
        have hs := hB.int (i := k) (by omega)
        have hf := hB.free k
        have hB2 := hB.put k (nth zs k)
        rw [cpy_step zs k hlt] at hB2
        have HN := Lib.hid (And.intro hB2 (hbel.setCell (p := ⟨w.heap.size, k, none⟩) (Nat.le_refl _) (.int .u32 (nth zs k))))
        clear hB hbel hB2 hc hcl
        go_wp2
        go_roundw
        case rel => exact ⟨k + 1, by omega, by go_num, HN.out.1, HN.out.2⟩
        case measure => simp [intOf]; omega

def ClonedS (e : TypeId) (w : World) (zs : List ByteArray) (en : Ending) (w' : World) : Prop :=
  ∃ ao cap, en = .returned (.slice ao zs.length cap) ∧ (zs = [] ∨ ∃ g, ao = some ⟨g, 0, none⟩ ∧ w.heap.size ≤ g ∧ Blk w' g e (strs zs)) ∧ Below w.heap.size w w'
theorem ClonedS.in' {e : TypeId} {w w' : World} {zs : List ByteArray} {ao : Option Addr} (h : zs = [] ∨ ∃ g, ao = some ⟨g, 0, none⟩ ∧ w.heap.size ≤ g ∧ Blk w' g e (strs zs)) : InS w' ao zs := by
  rcases h with h | ⟨g, rfl, _, hb⟩
  · exact .inl h
  · exact hb.inS
theorem cs_info : (Tryd.prog.info? 9).map (fun i => (i.zero, i.size, i.bytes)) = some (some (.string ByteArray.empty), 1, 16) := by kernel_rfl
theorem cs_any (ao : Option Addr) (cap : Nat) (zs : List ByteArray) (w : World) (hin : InS w ao zs) (hl : zs.length ≤ 1048576) :
    Calls Tryd.prog 6 #[.slice ao zs.length cap] w (ClonedS 9 w zs) := by
  have hnil := fun (w : World) => Lib.run_eql_slice_nil (P := Tryd.prog) w 22 9 ao zs.length cap 0 0 Tryd.underlying22
  rcases ao with _ | x
  · have hz : zs = [] := by
      rcases hin with h | ⟨b, off, h, _⟩
      · exact h
      · cases h
    subst hz
    clear hin hl
    simp only [List.length_nil, Option.isNone_none] at hnil
    go_enter Tryd.func6, Tryd.ntmps6
    go_wp2
    go_ret
    exact ⟨_, _, rfl, .inl rfl, Below.refl _ _⟩
  · have HI := Lib.hid hin
    clear hin
    go_enter Tryd.func6, Tryd.ntmps6
    go_wp2_with (at_make; refine wpList_make_strs _ rfl _ _ 22 rfl 9 ByteArray.empty 16 Tryd.underlying22 cs_info zs.length rfl rfl (by omega) (by unfold maxLen; omega) ?_; intro w1 hb hgr)
    have hb1 : Below w.heap.size w w1 := (Below.refl _ w).grown hgr (Nat.le_refl _) (fun k h => by cases h)
    have HB := Lib.hid (And.intro hb hb1)
    clear hb hgr hb1
    go_loopw [4] (fun i wr => ∃ k : Nat, k ≤ zs.length ∧ i = .int .i64 k ∧ Blk wr w.heap.size 9 (strs (cpyS ByteArray.empty zs k)) ∧ Below w.heap.size w wr) (fun i _ => zs.length - (intOf i).toNat)
    case atStart => exact ⟨0, Nat.zero_le _, rfl, by rw [cpyS_zero]; exact HB.out.1, HB.out.2⟩
    case round =>
      obtain ⟨k, hk, rfl, hB, hbel⟩ := hrel
      rcases (show k = zs.length ∨ k < zs.length by omega) with rfl | hlt
      · rw [cpyS_end] at hB
        have HF := Lib.hid (And.intro hB hbel)
        clear hB hbel
        go_wp2
        go_ret
        exact ⟨_, _, rfl, .inr ⟨_, rfl, Nat.le_refl _, HF.out.1⟩, HF.out.2⟩
      · obtain ⟨b, off, hx, hblt, hc⟩ := HI.out.at hlt
        cases hx
        have hc' := (hbel.cell (p := ⟨b, off + k, none⟩) hblt).trans hc
        have hcl := cpyS_length ByteArray.empty zs k hk
        have hs := hB.str (i := k) (by omega)
        have hf := hB.free k
        have hB2 := hB.putS k (tth zs k)
        rw [cpyS_step ByteArray.empty zs k hlt] at hB2
        have HN := Lib.hid (And.intro hB2 (hbel.setCell (p := ⟨w.heap.size, k, none⟩) (Nat.le_refl _) (.string (tth zs k))))
        clear hB hbel hB2 hc hcl
        go_wp2
        go_roundw
        case rel => exact ⟨k + 1, by omega, by go_num, HN.out.1, HN.out.2⟩
        case measure => simp [intOf]; omega


/-- the end of the chain of symbol i -/
def rootOf (ls : List Int) (n : Nat) : Nat → Nat → Nat
  | 0, i => i
  | f + 1, i => if fwd ls n i = true then rootOf ls n f (nth ls i).toNat else i
theorem fwd_iff {ls : List Int} {n i : Nat} : fwd ls n i = true ↔ (i : Int) < nth ls i ∧ nth ls i < (n : Int) := by simp [fwd]
theorem rootOf_fuel {ls : List Int} {n : Nat} : ∀ (f i : Nat), i < n → n - i ≤ f → ∀ f', n - i ≤ f' → rootOf ls n f i = rootOf ls n f' i := by
  intro f
  induction f with
  | zero => intro i _ h; omega
  | succ f ih =>
    intro i hi h f' h'
    obtain ⟨f', rfl⟩ : ∃ g, f' = g + 1 := ⟨f' - 1, by omega⟩
    unfold rootOf
    by_cases h0 : fwd ls n i = true
    · rw [if_pos h0, if_pos h0]
      have := fwd_iff.1 h0
      exact ih _ (by omega) (by omega) _ (by omega)
    · rw [if_neg h0, if_neg h0]
def root (ls : List Int) (n i : Nat) : Nat := rootOf ls n (n - i) i
theorem root_link {ls : List Int} {n i : Nat} (hi : i < n) (h : fwd ls n i = true) : root ls n (nth ls i).toNat = root ls n i := by
  have hf := fwd_iff.1 h
  unfold root
  obtain ⟨f, hf2⟩ : ∃ f, n - i = f + 1 := ⟨n - i - 1, by omega⟩
  have e : rootOf ls n (n - i) i = rootOf ls n f (nth ls i).toNat := by
    rw [hf2]
    show (if fwd ls n i = true then rootOf ls n f (nth ls i).toNat else i) = _
    rw [if_pos h]
  rw [e]
  exact rootOf_fuel _ _ (by omega) (by omega) _ (by omega)
theorem root_self {ls : List Int} {n i : Nat} (h : ¬ fwd ls n i = true) : root ls n i = i := by
  unfold root
  cases n - i with
  | zero => rfl
  | succ f => unfold rootOf; rw [if_neg h]
theorem root_facts {ls : List Int} {n : Nat} : ∀ (f i : Nat), i < n → n - i ≤ f → root ls n i < n ∧ i ≤ root ls n i ∧ root ls n (root ls n i) = root ls n i := by
  intro f
  induction f with
  | zero => intro i hi h; omega
  | succ f ih =>
    intro i hi h
    by_cases h0 : fwd ls n i = true
    · have h1 := fwd_iff.1 h0
      have h2 := ih (nth ls i).toNat (by omega) (by omega)
      rw [root_link hi h0] at h2
      exact ⟨h2.1, by omega, h2.2.2⟩
    · rw [root_self h0]
      exact ⟨hi, Nat.le_refl _, root_self h0⟩
theorem Bt.sy {w : World} {S T n : Nat} {ts : List ByteArray} {ks ls ns : List Int} (h : Bt w S n n ts ks ls ns) (hT : Blk w T 53 #[.slice (some ⟨S, 0, none⟩) n n]) :
    ∃ kc, Sy w T S 1 n kc (root ls n) (fun i => n - i) ∧ Kc kc n ts ks ns := by
  obtain ⟨cs, h1, h2, h3, _⟩ := h.out
  refine ⟨cs, ⟨_, cs, hT, rfl, rfl, by decide, h1, h2, fun _ _ _ => rfl, fun i hi => ?_⟩, fun i hi => ⟨(h3 i hi).name, (h3 i hi).nest, (h3 i hi).flags, (h3 i hi).kind⟩⟩
  have r := h3 i hi
  have l0 := r.l0
  have l1 := r.l1
  by_cases h0 : fwd ls n i = true
  · have hf := fwd_iff.1 h0
    rw [if_pos h0] at l0 l1
    exact .inr ⟨(nth ls i).toNat, by omega, l0, by rw [l1, show (((nth ls i).toNat : Nat) : Int) = nth ls i by omega], by show n - (nth ls i).toNat < n - i; omega, root_link hi h0⟩
  · rw [if_neg h0] at l0 l1
    exact .inl ⟨l0, l1, root_self h0⟩
set_option maxHeartbeats 1000000 in
set_option maxRecDepth 100000 in
theorem root_any (ao : Option Addr) (n cap : Nat) (ls : List Int) (hl : ls.length = n) (hn : n ≤ 65536) (h32 : B32 ls) (q : Nat) (hq : q < n) (w : World) (hin : In .u32 w ao ls) :
    Calls Tryd.prog 15 #[.slice ao n cap, .int .u32 (q : Int)] w fun e w' => e = .returned (.int .u32 (root ls n q : Int)) ∧ w' = w := by
  have H := Lib.hid (And.intro hin h32)
  have hwn : IntKind.u32.wrap (n : Int) = n := by rw [IntKind.wrap_u32]; omega
  clear hin h32
  obtain ⟨r, hr⟩ : ∃ r, root ls n q = r := ⟨_, rfl⟩
  rw [hr]
  have HR := Lib.hid hr
  clear hr
  go_enter Tryd.func15, Tryd.ntmps15
  go_wp2_with fail
  go_loopg [6] n (fun gk a wr => ∃ t : Nat, a = .int .u32 (t : Int) ∧ t < n ∧ n - t ≤ gk ∧ wr = w ∧ Hid (root ls n t = r))
  case atStart => exact ⟨q, rfl, hq, by omega, rfl, HR⟩
  case round =>
    obtain ⟨t, rfl, ht, hk, rfl, HT⟩ := hrel
    obtain ⟨b, off, rfl, _, hc⟩ := H.out.1.at (i := t) (by omega)
    have hb := H.out.2 t (by omega)
    obtain ⟨z, hz⟩ : ∃ z, nth ls t = z := ⟨_, rfl⟩
    rw [hz] at hc hb
    have HZ := Lib.hid hz
    clear hz
    have htn : decide ((t : Int) < (n : Int)) = true := by simp; omega
    have hlink := fun h => root_link (ls := ls) (n := n) (i := t) ht h
    have hself := fun h => root_self (ls := ls) (n := n) (i := t) h
    rw [HT.out, HZ.out] at hlink
    have HL := Lib.hid (And.intro hlink hself)
    clear hlink hself
    by_cases h1 : (t : Int) < z
    · have d1 : decide ((t : Int) < z) = true := by simp [h1]
      by_cases h2 : z < (n : Int)
      · have d2 : decide (z < (n : Int)) = true := by simp [h2]
        obtain ⟨j, rfl⟩ : ∃ j : Nat, z = (j : Int) := ⟨z.toNat, by omega⟩
        have HJ := Lib.hid (And.intro h1 h2)
        have hjn : j < n := by clear hwn; omega
        have htj : t < j := by clear hwn; omega
        go_wp2_with fail
        clear hwn
        have hj := HJ.out
        go_roundg (gk - 1)
        case measure => omega
        case rel =>
          have := HL.out.1 (fwd_iff.2 (by rw [HZ.out]; exact hj))
          rw [Int.toNat_natCast] at this
          exact ⟨j, rfl, by omega, by omega, rfl, Lib.hid this⟩
      · have d2 : decide (z < (n : Int)) = false := by simp; omega
        have hnf : ¬ fwd ls n t = true := fun h => h2 (by have := (fwd_iff.1 h).2; rw [HZ.out] at this; exact this)
        have HE := Lib.hid ((HL.out.2 hnf).symm.trans HT.out)
        clear h1 h2 hnf
        go_wp2_with fail
        go_ret
        exact ⟨by rw [← HE.out]; rfl, rfl⟩
    · have d1 : decide ((t : Int) < z) = false := by simp; omega
      have hnf : ¬ fwd ls n t = true := fun h => h1 (by have := (fwd_iff.1 h).1; rw [HZ.out] at this; exact this)
      have HE := Lib.hid ((HL.out.2 hnf).symm.trans HT.out)
      clear h1 hnf
      go_wp2_with fail
      go_ret
      exact ⟨by rw [← HE.out]; rfl, rfl⟩
theorem sc_any (c0 c1 c2 c3 : Int) (w : World) : Calls Tryd.prog 11 #[.int .u32 c0, .int .u32 c1, .int .u32 c2, .int .u32 c3] w fun e w' => e = .returned (.agg #[.int .u32 c0, .int .u32 c1, .int .u32 c2, .int .u32 c3]) ∧ w.grownBy w' none := by
  go_enter Tryd.func11, Tryd.ntmps11
  go_wp2_with fail
  have hb := (Blk.new w 37 #[.int .u32 c0, .int .u32 c1, .int .u32 c2, .int .u32 c3]).alloc (.cells #[.int .u32 c0, .int .u32 c1, .int .u32 c2, .int .u32 c3] 37)
  exact bodyPost_ret (v := .agg #[.int .u32 c0, .int .u32 c1, .int .u32 c2, .int .u32 c3]) (results_cell_row (d := _) Tryd.results11 _ _ w.heap.size 37 _ (0, 0) (by rfl) hb Tryd.underlying37 rfl (by kernel_rfl)) rfl ⟨rfl, gb_alloc (gb_alloc (gb_refl _ _) _) _⟩
end Go.Proofs.YtggepefjodgcgaaDoor
