/-
  Small functions that the table's builder calls; links and roots, in plain numbers. No statement of the seat is proved here.
-/
import Derived.Test.YtmpfgkiljfoicaaDoorSl
import Derived.Test.YtmpfgkiljfoicaaDoorInts
namespace Go.Proofs.YtmpfgkiljfoicaaDoor
open Go.RowKit
set_option linter.unusedVariables false
set_option linter.unusedSimpArgs false

/-- the link of symbol i -/
def lnk (ls : List Int) (i : Nat) : Option Nat := if i < ls.length ∧ nth ls i < (i : Int) then some (nth ls i).toNat else none
def rootOf (lk : Nat → Option Nat) (i : Nat) : Nat := match lk i with | none => i | some l => if h : l < i then rootOf lk l else i
termination_by i
def rkOf (lk : Nat → Option Nat) (i : Nat) : Nat := match lk i with | none => 0 | some l => if h : l < i then rkOf lk l + 1 else 0
termination_by i
theorem root_none {lk : Nat → Option Nat} {i : Nat} (h : lk i = none) : rootOf lk i = i ∧ rkOf lk i = 0 := by
  constructor
  · rw [rootOf, h]
  · rw [rkOf, h]
theorem root_some {lk : Nat → Option Nat} {i l : Nat} (h : lk i = some l) (hl : l < i) : rootOf lk i = rootOf lk l ∧ rkOf lk i = rkOf lk l + 1 := by
  constructor
  · rw [rootOf, h]
    simp [hl]
  · rw [rkOf, h]
    simp [hl]
theorem root_ok (lk : Nat → Option Nat) (hlk : ∀ i l, lk i = some l → l < i) : ∀ i, rootOf lk i ≤ i ∧ rkOf lk (rootOf lk i) ≤ rkOf lk i ∧ rootOf lk (rootOf lk i) = rootOf lk i := by
  intro i
  induction i using Nat.strongRecOn with
  | _ i ih =>
    cases h : lk i with
    | none =>
      have e := root_none h
      rw [e.1]
      exact ⟨Nat.le_refl _, Nat.le_refl _, e.1⟩
    | some l =>
      have hl := hlk i l h
      have e := root_some h hl
      have q := ih l hl
      rw [e.1, e.2]
      exact ⟨by omega, by omega, q.2.2⟩
theorem lnk_lt {ls : List Int} {i l : Nat} (h : lnk ls i = some l) (h0 : 0 ≤ nth ls i) : l < i ∧ nth ls i = (l : Int) ∧ i < ls.length := by
  unfold lnk at h
  split at h
  · rename_i hc
    have := Option.some.inj h
    omega
  · cases h
set_option maxRecDepth 100000 in
theorem inv_any (w : World) : Calls Tryd.prog 13 #[] w fun e w' => e = .returned (.agg #[.int .u32 4294967295, .int .u32 4294967295]) ∧ w.grownBy w' none := by
  have hz : (zeroValue 30).run Tryd.prog w = .ok (.agg #[.int .u32 0, .int .u32 0]) w := by kernel_rfl
  have hb := Blk.new w 30 #[.int .u32 4294967295, .int .u32 4294967295]
  go_enter Tryd.func13, Tryd.ntmps13
  go_wp2_with fail
  exact bodyPost_ret (v := .agg #[.int .u32 4294967295, .int .u32 4294967295]) (results_cell_row (d := _) Tryd.results13 _ _ w.heap.size 30 _ (0, 0) (by rfl) hb Tryd.underlying30 rfl (by kernel_rfl)) rfl ⟨rfl, gb_alloc (gb_refl _ _) _⟩
set_option maxRecDepth 100000 in
theorem ref_any (z : Nat) (hz' : z < 1048576) (w : World) : Calls Tryd.prog 5 #[.int .i64 (z : Int)] w fun e w' => e = .returned (.agg #[.int .u32 0, .int .u32 (z : Int)]) ∧ w.grownBy w' none := by
  have hz : (zeroValue 30).run Tryd.prog w = .ok (.agg #[.int .u32 0, .int .u32 0]) w := by kernel_rfl
  have hb := Blk.new w 30 #[.int .u32 0, .int .u32 (z : Int)]
  have hwr : (z : Int) % 4294967296 = (z : Int) := by omega
  have hwr2 : IntKind.u32.wrap (z : Int) = (z : Int) := by rw [IntKind.wrap_u32]; exact hwr
  clear hz'
  go_enter Tryd.func5, Tryd.ntmps5
  go_wp2_with fail
  exact bodyPost_ret (v := .agg #[.int .u32 0, .int .u32 (z : Int)]) (results_cell_row (d := _) Tryd.results5 _ _ w.heap.size 30 _ (0, 0) (by rfl) hb Tryd.underlying30 rfl (by kernel_rfl)) rfl ⟨rfl, gb_alloc (gb_refl _ _) _⟩
theorem byte_any (a : Option Addr) (n p : Nat) (xs : List Int) (hx : xs.length = n) (i : Nat) (w : World) (h : In .u8 w a xs) : Calls Tryd.prog 15 #[.slice a n p, .int .i64 (i : Int)] w fun e w' => e = .returned (.int .u8 (nth xs i)) ∧ w' = w := by
  by_cases hi : i < n
  · obtain ⟨b, o, rfl, _, hc⟩ := h.at (i := i) (by omega)
    have d : decide ((i : Int) < (n : Int)) = true := by simp; exact hi
    go_enter Tryd.func15, Tryd.ntmps15
    go_wp2
    go_ret
    exact ⟨rfl, rfl⟩
  · have d : decide ((i : Int) < (n : Int)) = false := by simp; omega
    have e0 : nth xs i = 0 := by simp [nth, List.getD, show xs.length ≤ i by omega]
    rw [e0]
    go_enter Tryd.func15, Tryd.ntmps15
    go_wp2
    go_ret
    exact ⟨rfl, rfl⟩
theorem word_any (a : Option Addr) (n p : Nat) (xs : List Int) (hx : xs.length = n) (i : Nat) (w : World) (h : In .u32 w a xs) : Calls Tryd.prog 30 #[.slice a n p, .int .i64 (i : Int)] w fun e w' => e = .returned (.int .u32 (nth xs i)) ∧ w' = w := by
  by_cases hi : i < n
  · obtain ⟨b, o, rfl, _, hc⟩ := h.at (i := i) (by omega)
    have d : decide ((i : Int) < (n : Int)) = true := by simp; exact hi
    go_enter Tryd.func30, Tryd.ntmps30
    go_wp2
    go_ret
    exact ⟨rfl, rfl⟩
  · have d : decide ((i : Int) < (n : Int)) = false := by simp; omega
    have e0 : nth xs i = 0 := by simp [nth, List.getD, show xs.length ≤ i by omega]
    rw [e0]
    go_enter Tryd.func30, Tryd.ntmps30
    go_wp2
    go_ret
    exact ⟨rfl, rfl⟩
def lkTup : Option Nat → Value | none => .tuple #[.int .i64 0, .bool false] | some l => .tuple #[.int .i64 (l : Int), .bool true]
theorem link_any (a : Option Addr) (n p : Nat) (xs : List Int) (hx : xs.length = n) (hp : ∀ i, i < xs.length → 0 ≤ nth xs i) (i : Nat) (hi' : i < 1048576) (w : World) (h : In .u32 w a xs) : Calls Tryd.prog 14 #[.slice a n p, .int .i64 (i : Int)] w fun e w' => e = .returned (lkTup (lnk xs i)) ∧ w' = w := by
  have hwr : (i : Int) % 4294967296 = (i : Int) := by omega
  have hwr2 : IntKind.u32.wrap (i : Int) = (i : Int) := by rw [IntKind.wrap_u32]; exact hwr
  by_cases hi : i < n
  · obtain ⟨b, o, rfl, _, hc⟩ := h.at (i := i) (by omega)
    have d : decide ((i : Int) < (n : Int)) = true := by simp; exact hi
    have h0 := hp i (by omega)
    obtain ⟨z, hz⟩ : ∃ z : Nat, nth xs i = (z : Int) := ⟨(nth xs i).toNat, by omega⟩
    rw [hz] at hc
    by_cases hl : z < i
    · have d2 : decide ((z : Int) < (i : Int)) = true := by simp; exact hl
      have e : lnk xs i = some z := by unfold lnk; rw [if_pos ⟨by omega, by omega⟩, hz]; rfl
      rw [e]
      have hw64 : IntKind.i64.wrap (z : Int) = (z : Int) := by rw [IntKind.wrap_i64]; omega
      clear hi' h0 hz hp h e
      go_enter Tryd.func14, Tryd.ntmps14
      go_wp2
      go_ret2
      exact ⟨rfl, rfl⟩
    · have d2 : decide ((z : Int) < (i : Int)) = false := by simp; omega
      have e : lnk xs i = none := by unfold lnk; rw [if_neg (by omega)]
      rw [e]
      clear hi' h0 hz hp h e
      go_enter Tryd.func14, Tryd.ntmps14
      go_wp2
      go_ret2
      exact ⟨rfl, rfl⟩
  · have d : decide ((i : Int) < (n : Int)) = false := by simp; omega
    have e : lnk xs i = none := by unfold lnk; rw [if_neg (by omega)]
    rw [e]
    clear hi' hp h e
    go_enter Tryd.func14, Tryd.ntmps14
    go_wp2
    go_ret2
    exact ⟨rfl, rfl⟩
/-- the nested slot of symbol i -/
def nst (ns : List Int) (c : Nat) (i : Nat) : Option Nat := if nth ns i = 0 ∨ c = 0 then none else some ((nth ns i - 1) % (c : Int)).toNat
def nsTup : Option Nat → Value | none => .tuple #[.int .u32 0, .bool false] | some l => .tuple #[.int .u32 (l : Int), .bool true]
theorem nest_any (a : Option Addr) (n p : Nat) (xs : List Int) (hx : xs.length = n) (i c : Nat) (h0 : 0 ≤ nth xs i ∧ nth xs i < 4294967296) (hc' : c < 1048576) (w : World) (h : In .u32 w a xs) : Calls Tryd.prog 16 #[.slice a n p, .int .u32 (c : Int), .int .i64 (i : Int)] w fun e w' => e = .returned (nsTup (nst xs c i)) ∧ w' = w := by
  have HW := Lib.hid (word_any a n p xs hx i w h)
  obtain ⟨v, hv⟩ : ∃ v, nth xs i = v := ⟨_, rfl⟩
  have e0 : nst xs c i = if v = 0 ∨ c = 0 then none else some ((v - 1) % (c : Int)).toNat := by unfold nst; rw [hv]
  rw [e0]
  rw [hv] at HW h0
  clear hv e0 h hx
  by_cases h1 : v = 0
  · subst h1
    rw [if_pos (.inl rfl)]
    clear h0 hc'
    go_enter Tryd.func16, Tryd.ntmps16
    go_wp2_with (go_at_call 30; refine HW.out.mono ?_; rintro e w2 ⟨rfl, rfl⟩)
    go_ret2
    exact ⟨rfl, rfl⟩
  · have d1 : decide (v = 0) = false := by simp [h1]
    have d1' : (v == 0) = false := by simp [h1]
    by_cases h2 : c = 0
    · subst h2
      rw [if_pos (.inr rfl)]
      clear h0 hc'
      go_enter Tryd.func16, Tryd.ntmps16
      go_wp2_with (go_at_call 30; refine HW.out.mono ?_; rintro e w2 ⟨rfl, rfl⟩)
      go_ret2
      exact ⟨rfl, rfl⟩
    · have d2 : decide ((c : Int) = 0) = false := by simp; omega
      have d2' : ((c : Int) == 0) = false := by simp; omega
      rw [if_neg (by omega)]
      have hw5 : IntKind.u32.wrap (v - 1) = v - 1 := by rw [IntKind.wrap_u32]; omega
      have hm0 : 0 ≤ (v - 1) % (c : Int) := Int.emod_nonneg _ (by omega)
      have hm1 : (v - 1) % (c : Int) < (c : Int) := Int.emod_lt_of_pos _ (by omega)
      obtain ⟨z, hz⟩ : ∃ z : Nat, (v - 1) % (c : Int) = (z : Int) := ⟨((v - 1) % (c : Int)).toNat, by omega⟩
      have ht : (v - 1).tmod (c : Int) = (z : Int) := by rw [Int.tmod_eq_emod_of_nonneg (by omega), hz]
      rw [hz] at hm0 hm1 ⊢
      have hw6 : IntKind.u32.wrap (z : Int) = (z : Int) := by rw [IntKind.wrap_u32]; omega
      have ez : ((z : Int)).toNat = z := rfl
      rw [ez]
      clear h0 hc' hm0 hm1 hz ez
      go_enter Tryd.func16, Tryd.ntmps16
      go_wp2_with (go_at_call 30; refine HW.out.mono ?_; rintro e w2 ⟨rfl, rfl⟩)
      go_ret2
      exact ⟨rfl, rfl⟩
theorem sc_any (c0 c1 : Int) (w : World) : Calls Tryd.prog 8 #[.int .u32 c0, .int .u32 c1] w fun e w' => e = .returned (.agg #[.int .u32 c0, .int .u32 c1, .int .u32 0, .int .u32 0]) ∧ w.grownBy w' none := by
  have hz : (zeroValue 39).run Tryd.prog w = .ok (.agg #[.int .u32 0, .int .u32 0, .int .u32 0, .int .u32 0]) w := by kernel_rfl
  go_enter Tryd.func8, Tryd.ntmps8
  go_wp2_with fail
  have hb := (Blk.new w 39 #[.int .u32 c0, .int .u32 c1, .int .u32 0, .int .u32 0]).alloc (.cells #[.int .u32 c0, .int .u32 c1, .int .u32 0, .int .u32 0] 39)
  exact bodyPost_ret (v := .agg #[.int .u32 c0, .int .u32 c1, .int .u32 0, .int .u32 0]) (results_cell_row (d := _) Tryd.results8 _ _ w.heap.size 39 _ (0, 0) (by rfl) hb Tryd.underlying39 rfl (by kernel_rfl)) rfl ⟨rfl, gb_alloc (gb_alloc (gb_refl _ _) _) _⟩
end Go.Proofs.YtmpfgkiljfoicaaDoor
