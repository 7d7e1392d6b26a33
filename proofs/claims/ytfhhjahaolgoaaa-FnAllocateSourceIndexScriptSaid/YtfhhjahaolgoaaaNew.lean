/-
  A fresh scanner at this seat: newScanner, MakeCacheSet.
-/
import Derived.Test.YtfhhjahaolgoaaaAsi
namespace Go.Proofs.Ytfhhjahaolgoaaa
open Go.RowKit Go.Maps

theorem size_al (w : World) (o : Obj) : (w.alloc o).heap.size = w.heap.size + 1 := by show (w.heap.push _).size = _; rw [Array.size_push]
theorem blk_at {w : World} {q : Nat} {t : TypeId} {cs : Array Value} (hq : w.heap.size = q) : Blk (w.alloc (.cells cs t)) q t cs := by subst hq; exact Blk.new w t cs

/-- the cells of a fresh scanner over the cache set c and the map m -/
noncomputable def scCells (c m : Nat) : Array Value := cellsOf ((Instr.build 102 #[(3, .pointer (some ⟨c, 0, none⟩)), (7, .map (some m))]).run Try.prog default)
theorem scCells_run (c m : Nat) (w : World) : (Instr.build 102 #[(3, .pointer (some ⟨c, 0, none⟩)), (7, .map (some m))]).run Try.prog w = .ok (.agg (scCells c m)) w := by kernel_rfl
theorem scCells_size (c m : Nat) : (scCells c m).size = 117 := by kernel_rfl
theorem scCells_8 (c m : Nat) : (scCells c m)[8]? = some (.pointer (some ⟨c, 0, none⟩)) := by kernel_rfl
theorem scCells_11 (c m : Nat) : (scCells c m)[11]? = some (.slice none 0 0) := by kernel_rfl

set_option maxHeartbeats 1000000 in
set_option maxRecDepth 100000 in
theorem mkcs_any (w : World) : Calls Try.prog 8 #[] w fun e w' => ∃ c bm, e = .returned (.pointer (some ⟨c, 0, none⟩)) ∧ Ex w [] w' ∧ Cs w' c bm 1 ∧ w.heap.size ≤ c ∧ w.heap.size ≤ bm ∧ bm ≠ c ∧ Mp (H := Unit) w' bm 0 (.map []) := by
  have hmm := @run_makeMap Try.prog
  go_enter Try.func8, Try.ntmps8
  go_wp2_with fail
  go_ret
  refine ⟨w.heap.size + 1 + 1 + 1 + 1 + 1 + 1, w.heap.size + 1, rfl, ?_, ⟨_, blk_at (by simp only [size_al]), ?_, ?_, ?_, ?_⟩, by omega, by omega, by omega, ?_⟩
  · exact (((((((Ex.refl w []).alloc _).alloc _).alloc _).alloc _).alloc _).alloc _).alloc _
  · rfl
  · rfl
  · rfl
  · rfl
  · have h := World.ownsMap_made (H := Unit) (w.alloc (.map #[] 0)) Try.prog 136 (plainElem Try.prog 26)
    rw [size_al] at h
    exact ((((h.alloc _).alloc _).alloc _).alloc _).alloc _

set_option maxHeartbeats 1000000 in
set_option maxRecDepth 100000 in
theorem new_any (w : World) : Calls Try.prog 5 #[] w fun e w' => ∃ s c bm, e = .returned (.pointer (some ⟨s, 0, none⟩)) ∧ Ex w [] w' ∧ w.heap.size ≤ s ∧ w.heap.size ≤ c ∧ w.heap.size ≤ bm ∧ (∀ B, w'.heap.size ≤ B → Sc (H := Unit) w' s c bm B 0 (.map []) 1 0) := by
  have hmm := @run_makeMap Try.prog
  go_enter Try.func5, Try.ntmps5
  go_wp2_with (first
    | (go_at_call 8; refine (mkcs_any _).mono ?_; rintro e w1 ⟨c, bm, rfl, h1, h2, h3, h4, h5, h6⟩)
    | (refine wpList_build rfl 102 _ rfl [(3, .pointer (some ⟨c, 0, none⟩)), (7, .map (some w1.heap.size))] rfl (scCells c w1.heap.size) (scCells_run c w1.heap.size) ?_))
  go_ret
  have x1 : Ex w [] ((w1.alloc (.map #[] 0)).alloc (.cells (scCells c w1.heap.size) 102)) := (h1.alloc _).alloc _
  obtain ⟨dc, hb, q⟩ := h2
  have hb' := (hb.alloc (.map #[] 0)).alloc (.cells (scCells c w1.heap.size) 102)
  have hlt := hb.lt
  have hlm := h6.lt
  have hs1 := h1.size
  refine ⟨w1.heap.size + 1, c, bm, rfl, x1, by omega, h3, h4, fun B hB => ⟨⟨dc, hb', q⟩, (h6.alloc _).alloc _, ⟨_, _, blk_at (by simp only [size_al]), scCells_size _ _, scCells_8 _ _, scCells_11 _ _, .inl ⟨rfl, rfl⟩⟩, ?_⟩⟩
  simp only [size_al] at hB
  omega

set_option maxHeartbeats 1000000 in
set_option maxRecDepth 100000 in
theorem rlen_any {H : Type} {s c bm B n : Nat} {D : DataW H} {nx k : Nat} (w : World) (h : Sc w s c bm B n D nx k) :
    Calls Try.prog 7 #[.pointer (some ⟨s, 0, none⟩)] w fun e w' => e = .returned (.int .i64 k) ∧ w' = w := by
  obtain ⟨sc, v, hs, hsz, q8, q11, hrs⟩ := h.sc
  have c11 := (hs.cell 11).trans q11
  obtain ⟨a, cap, rfl⟩ : ∃ a cap, v = .slice a k cap := by
    rcases hrs with ⟨rfl, rfl⟩ | ⟨g, cap, cur, rfl, _⟩
    · exact ⟨_, _, rfl⟩
    · exact ⟨_, _, rfl⟩
  go_enter Try.func7, Try.ntmps7
  go_wp2_with fail
  go_ret
  exact ⟨rfl, rfl⟩

/-- what the law asks of one allocation: the text's number, and the results' length -/
structure St (w : World) (s c bm B : Nat) (seen : List ByteArray) : Prop where
  sc : ∃ (n : Nat) (D : DataW Unit), n ≤ seen.length ∧ Know kl D seen ∧ Sc w s c bm B n D (1 + seen.length) (if seen.length = 0 then 0 else 1 + seen.length)

set_option maxHeartbeats 1000000 in
set_option maxRecDepth 100000 in
theorem alloc_any {s c bm B : Nat} {seen : List ByteArray} (t : ByteArray) (w : World) (h : St w s c bm B seen) (hBw : B ≤ w.heap.size) (ht : t.size ≤ maxLen) (hl : seen.length < 60000) :
    Calls Try.prog 6 #[.pointer (some ⟨s, 0, none⟩), .string t] w fun e w' => ∃ r : Nat, e = .returned (.int .u32 ((r : Int) + 1)) ∧ (ext seen t)[r]? = some t ∧ Ex w [s, c, bm] w' ∧ St w' s c bm B (ext seen t) := by
  obtain ⟨n, D, hn, hk, hsc⟩ := h.sc
  have HA : Hid (Calls Try.prog 9 #[.pointer (some ⟨s, 0, none⟩), pathV t, .int .u8 0] w fun e w' => ∃ r : Nat, e = .returned (.int .u32 ((r : Int) + 1)) ∧ (ext seen t)[r]? = some t ∧ Ex w [s, c, bm] w' ∧ St w' s c bm B (ext seen t)) := Lib.hid (by
    cases hh : Maps.has D (kl t)
    · have hno := hk.missed ht hh
      have hk2 := hk.snoc keys1 ht hno
      refine (asi_new t w hsc hBw ht hh (by omega) (by omega) (by split <;> omega)).mono ?_
      rintro e w' ⟨rfl, hx, hs'⟩
      rw [ext_out hno]
      have e1 : (((1 + seen.length : Nat) : Int)) = 1 + (seen.length : Int) := by omega
      rw [e1] at hs'
      refine ⟨seen.length, ?_, by simp, hx, ⟨n + 1, _, by simp; omega, hk2, ?_⟩⟩
      · rw [Int.natCast_add]; congr 2; omega
      · have e2 : (if (seen ++ [t]).length = 0 then 0 else 1 + (seen ++ [t]).length) = 1 + seen.length + 1 := by
          rw [if_neg (by simp)]; simp; omega
        rw [e2, show 1 + (seen ++ [t]).length = 1 + seen.length + 1 by simp; omega]
        exact hs'
    · obtain ⟨v, ps, hrun, hv⟩ := hsc.mp.look_ok keyed136 Try.underlying111 (zero26 _) (plainElem_int Try.underlying26 (by decide)) (keyOf_key t ht)
      obtain ⟨cc, rfl, hc, _⟩ := plainElem_int_inv Try.underlying26 hv
      simp only [Prod.mk.injEq] at hc
      obtain ⟨hm, r, hr, rfl⟩ := hk.found ht hh hc.1
      have hlt := (List.getElem?_eq_some_iff.1 hr).1
      have hr1 := hc.1
      rw [show (1 + (r : Int)) = ((r + 1 : Nat) : Int) by omega] at hr1
      refine (asi_found (r := r + 1) t w hsc ht hh hr1 (by rw [if_neg (by omega)]; omega) (by split <;> omega)).mono ?_
      rintro e w' ⟨rfl, _, hx, hs'⟩
      rw [ext_in hm]
      exact ⟨r, by simp, hr, hx, ⟨n, D, hn, hk, hs'⟩⟩)
  unfold pathV at HA
  go_enter Try.func6, Try.ntmps6
  go_wp2_with (go_at_call 9; refine HA.out.mono ?_; rintro e w1 ⟨r, rfl, h1, h2, h3⟩)
  go_ret
  exact ⟨r, rfl, h1, h2, h3⟩
end Go.Proofs.Ytfhhjahaolgoaaa
