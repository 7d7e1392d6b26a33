/-
  The name that the law expects; the plain printer. No statement of the seat is proved here.
-/
import Derived.Test.YtmfhoeihdikklaaFmtWq
import Derived.Test.YtmfhoeihdikklaaFmtZc
namespace Go.Proofs.YtmfhoeihdikklaaFmt
open Go.RowKit
set_option linter.unusedVariables false
set_option linter.unusedSimpArgs false

theorem own_in {w : World} {B n c : Nat} {ao : Option Addr} {zs : List Int} (hn : zs.length = n) (h : Own .u8 5 w B (.slice ao n c) zs) : In .u8 w ao zs := by
  subst hn
  rcases h.2 with ⟨_, hz⟩ | ⟨g, cap, cur, hv, _, hh, _, _, _, htk⟩
  · have : zs = [] := by simpa [row] using hz
    exact .inl this
  · simp only [Value.slice.injEq] at hv
    refine .inr ⟨g, 0, hv.1, blk_lt hh, fun i hi => ?_⟩
    rw [Nat.zero_add, blk_cell hh i, ← Array.getElem?_toList]
    have e : (cur.toList.take (zs.length * 1))[i]? = (row .u8 zs)[i]? := by rw [htk]
    rw [List.getElem?_take_of_lt (by omega)] at e
    rw [e]
    exact row_at .u8 zs i hi
/-- the target of a symbol's link; the last key; the name -/
def tgt (ls : List Int) (r : Nat) : Nat := if nth ls r = 0 then r else (nth ls r - 1).toNat
def lastJ (ks : List Int) (r : Nat) : Nat → Option Nat | 0 => none | j + 1 => if nth ks j = (r : Int) then some j else lastJ ks r j
def chosen (ts : List ByteArray) (ls ks : List Int) (vs : List ByteArray) (r : Nat) : ByteArray := match lastJ ks (tgt ls r) ks.length with | some j => tth vs j | none => tth ts (tgt ls r)
theorem lastJ_lt {ks : List Int} {r : Nat} : ∀ {n j : Nat}, lastJ ks r n = some j → j < n
  | 0, j, h => by cases h
  | n + 1, j, h => by
    unfold lastJ at h
    split at h
    · have := Option.some.inj h; omega
    · have := lastJ_lt h; omega
theorem tgt_lt {l1 l2 l3 l4 r : Nat} {ls : List Int} (h : Wf l1 l2 l3 l4 ls r) (hl : ls.length = l2) (hb : ∀ i, i < ls.length → 0 ≤ nth ls i ∧ nth ls i < 4294967296) : tgt ls r < l1 := by
  have h1 := h.r
  have h2 := h.e1
  unfold tgt
  by_cases e : nth ls r = 0
  · rw [if_pos e]; exact h1
  · rw [if_neg e]
    have := (h.ok r (by omega) e).1
    have := hb r (by omega)
    omega
set_option maxHeartbeats 1000000 in
set_option maxRecDepth 100000 in
theorem cho_any (a1 a2 a3 a4 : Option Addr) (l1 l2 l3 l4 p1 p2 p3 p4 r : Nat) (ts vs : List ByteArray) (ls ks : List Int) (h1 : ts.length = l1) (h2 : ls.length = l2) (h3 : ks.length = l3) (h4 : vs.length = l4) (hf : Wf l1 l2 l3 l4 ls r)
    (hb : ∀ i, i < ls.length → 0 ≤ nth ls i ∧ nth ls i < 4294967296) (hk : ∀ i, i < ks.length → 0 ≤ nth ks i ∧ nth ks i < 4294967296) (n1 : l1 ≤ 65536) (n3 : l3 ≤ 65536) (w : World) (i1 : InS w a1 ts) (i2 : In .u32 w a2 ls) (i3 : In .u32 w a3 ks) (i4 : InS w a4 vs) :
    Calls Tryf.prog 10 #[.slice a1 l1 p1, .slice a2 l2 p2, .slice a3 l3 p3, .slice a4 l4 p4, .int .u32 (r : Int)] w fun e w' => e = .returned (.string (chosen ts ls ks vs r)) ∧ w' = w := by
  have hrl := hf.r
  have he1 := hf.e1
  have he2 := hf.e2
  subst he1 he2
  obtain ⟨b2, o2, rfl, _, c2⟩ := i2.at (i := r) (by omega)
  have hbr := hb r (by omega)
  obtain ⟨z, hz⟩ : ∃ z : Nat, nth ls r = (z : Int) := ⟨(nth ls r).toNat, by omega⟩
  have htl := tgt_lt hf h2 hb
  obtain ⟨q, hq⟩ : ∃ q, tgt ls r = q := ⟨_, rfl⟩
  rw [hq] at htl
  have hqz : (z = 0 ∧ q = r) ∨ (0 < z ∧ q + 1 = z) := by
    unfold tgt at hq
    rw [hz] at hq
    by_cases e : z = 0
    · subst e; simp at hq; exact .inl ⟨rfl, hq.symm⟩
    · rw [if_neg (by omega)] at hq
      exact .inr ⟨by omega, by omega⟩
  have hch : chosen ts ls ks vs r = match lastJ ks q ks.length with | some j => tth vs j | none => tth ts q := by unfold chosen; rw [hq]
  rw [h3] at hch
  obtain ⟨res, hres⟩ : ∃ res, chosen ts ls ks vs r = res := ⟨_, rfl⟩
  rw [hres] at hch
  rw [hres]
  have HRES := Lib.hid hch
  clear hres
  rw [hz] at c2
  have HK := Lib.hid hk
  clear hch hz hq hbr hb hk hf
  have wr : IntKind.u64.wrap (r : Int) = (r : Int) := by rw [IntKind.wrap_u64]; omega
  have wz : IntKind.u64.wrap (z : Int) = (z : Int) := by rw [IntKind.wrap_u64]; omega
  have wq : IntKind.u64.wrap (q : Int) = (q : Int) := by rw [IntKind.wrap_u64]; omega
  go_enter Tryf.func10, Tryf.ntmps10
  go_upto_if 19 with fail
  go_cut [11] (fun x wc => x = .int .u64 (q : Int) ∧ w = wc)
  case first =>
    rcases hqz with ⟨rfl, rfl⟩ | ⟨hz0, hqz⟩
    · go_wp2_with fail
      go_meet
      exact ⟨rfl, rfl⟩
    · have d0 : decide ((z : Int) = 0) = false := by simp; omega
      have d0' : ((z : Int) == 0) = false := by simp; omega
      have wy : IntKind.u64.wrap ((z : Int) - 1) = (q : Int) := by rw [IntKind.wrap_u64]; omega
      go_wp2_with fail
      go_meet
      exact ⟨rfl, rfl⟩
  case rest =>
    obtain ⟨rfl, rfl⟩ := hcut
    clear hqz wr wz c2
    go_wp2_with fail
    go_loopg [12] l3 (fun k a wx => ∃ j : Nat, a = .int .i64 ((j : Int) - 1) ∧ j ≤ l3 ∧ j ≤ k ∧ w = wx ∧ Hid (lastJ ks q l3 = lastJ ks q j))
    case atStart => exact ⟨l3, by go_num, by omega, by omega, rfl, Lib.hid rfl⟩
    case round =>
      obtain ⟨j, rfl, hj, hjk, rfl, HJ⟩ := hrel
      cases j with
      | zero =>
        obtain ⟨b1, o1, rfl, _, c1⟩ := i1.at (i := q) (by omega)
        have hr : res = tth ts q := by
          have h := HRES.out
          rw [HJ.out] at h
          exact h
        obtain ⟨t, ht⟩ : ∃ t, tth ts q = t := ⟨_, rfl⟩
        rw [ht] at c1 hr
        have HR := Lib.hid hr
        clear ht hr hjk
        go_wp2_with fail
        go_ret
        exact ⟨congrArg (fun s => Ending.returned (.string s)) HR.out.symm, rfl⟩
      | succ j =>
        have hjm : (((j + 1 : Nat) : Int) - 1) = (j : Int) := by omega
        rw [hjm]
        obtain ⟨b3, o3, rfl, _, c3⟩ := i3.at (i := j) (by omega)
        have hkj := HK.out j (by omega)
        obtain ⟨y, hy⟩ : ∃ y : Nat, nth ks j = (y : Int) := ⟨(nth ks j).toNat, by omega⟩
        rw [hy] at c3 hkj
        have wy : IntKind.u64.wrap (y : Int) = (y : Int) := by rw [IntKind.wrap_u64]; omega
        have HY := Lib.hid hy
        clear hy hkj hjm
        by_cases hyq : y = q
        · subst hyq
          obtain ⟨b4, o4, rfl, _, c4⟩ := i4.at (i := j) (by omega)
          have hr : res = tth vs j := by
            have h := HRES.out
            rw [HJ.out] at h
            have e : lastJ ks y (j + 1) = some j := by unfold lastJ; rw [if_pos HY.out]
            rw [e] at h
            exact h
          obtain ⟨t, ht⟩ : ∃ t, tth vs j = t := ⟨_, rfl⟩
          rw [ht] at c4 hr
          have HR := Lib.hid hr
          clear ht hr
          go_wp2_with fail
          go_ret
          exact ⟨congrArg (fun s => Ending.returned (.string s)) HR.out.symm, rfl⟩
        · have d1 : decide ((y : Int) = (q : Int)) = false := by simp; omega
          have d1' : ((y : Int) == (q : Int)) = false := by simp; omega
          have hn : Hid (lastJ ks q (j + 1) = lastJ ks q j) := Lib.hid (by
            show (if nth ks j = (q : Int) then some j else lastJ ks q j) = lastJ ks q j
            rw [if_neg (by rw [HY.out]; omega)])
          go_wp2_with fail
          go_roundg (gk - 1)
          case measure => clear wy wq; omega
          case rel => exact ⟨j, by go_num, by omega, by clear wy wq; omega, rfl, Lib.hid (HJ.out.trans hn.out)⟩
/-- the plain printer -/
theorem newp_any (ao : Option Addr) (n c : Nat) (a : Bool) (zs : List Int) (hn : zs.length = n) (w : World) (B : Nat) (hB : B ≤ w.heap.size) (ho : Own .u8 5 w B (.slice ao n c) zs) :
    Calls Tryf.prog 15 #[.slice ao n c, .int .i64 0, .bool false, .bool a] w fun en w' => ∃ p, en = .returned (.pointer (some ⟨p, 0, none⟩)) ∧ Pr w' B p 0 false a none (none, 0) zs 0 0 ∧ Below w.heap.size w w' := by
  subst hn
  have HO := Lib.hid ho
  clear ho
  go_enter Tryf.func15, Tryf.ntmps15
  go_wp2_with (first | (refine wpList_build rfl 64 _ rfl [(3, .int .i64 0), (6, .bool false), (7, .bool a)] rfl (optCells 0 false a none) (build64a 0 false a) ?_) | (refine wpList_build rfl 79 _ rfl [(0, .agg (optCells 0 false a none)), (3, .slice ao zs.length c)] rfl (prCells 0 false a none (none, 0) (.slice ao zs.length c) 0 0) (build79a 0 false a ao zs.length c) ?_))
  go_ret
  refine ⟨_, rfl, ⟨ao, c, Blk.new _ _ _, HO.out.alloc _, fun e => ?_, hB⟩, (Below.refl _ _).alloc (Nat.le_refl _) _⟩
  have := (HO.out.lt _ e).2
  omega
theorem css_any (B p : Nat) (l : Int) (m a : Bool) (lnv : Option Nat) (syv : Option Addr × Nat) (zs : List Int) (s e : Int) (w : World) (hp : Pr w B p l m a lnv syv zs s e) :
    Calls Tryf.prog 14 #[.pointer (some ⟨p, 0, none⟩)] w fun en w' => (∃ ao c, en = .returned (.slice ao zs.length c) ∧ In .u8 w ao zs) ∧ w' = w := by
  obtain ⟨ao, c, hb, hown, hne, hBp⟩ := hp
  have c15 := (hb.cell 15).trans (pr15 _ _ _ _ _ _ _ _ _ _)
  have hlt := hb.lt
  have HO := Lib.hid (own_in rfl hown)
  clear hb hown hne
  go_enter Tryf.func14, Tryf.ntmps14
  go_wp2
  go_ret
  exact ⟨⟨_, _, rfl, HO.out⟩, rfl⟩
end Go.Proofs.YtmfhoeihdikklaaFmt
