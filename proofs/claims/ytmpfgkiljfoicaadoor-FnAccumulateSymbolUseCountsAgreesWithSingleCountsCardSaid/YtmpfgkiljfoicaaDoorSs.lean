/-
  zzSameSlots, walked: two renamers that met the same symbols have the same slots. No statement of the seat is proved here.
-/
import Derived.Test.YtmpfgkiljfoicaaDoorAc
import Derived.Deep.LoopGhost
namespace Go.Proofs.YtmpfgkiljfoicaaDoor
open Go.RowKit
set_option linter.unusedVariables false
set_option linter.unusedSimpArgs false

/-- a renamer's four rows -/
structure R4 (m : Pm) (w : World) (B R g0 g1 g2 g3 : Nat) (L : List Nat) : Prop where
  blk : ∃ v0 vm vT, Blk w R 56 #[v0, .slice (some ⟨g0, 0, none⟩) m.c m.c, .slice (some ⟨g1, 0, none⟩) m.c m.c, .slice (some ⟨g2, 0, none⟩) 0 0, .slice (some ⟨g3, 0, none⟩) 0 0, vm, vT]
  s0 : SlAt m w B g0 0 L
  s1 : SlAt m w B g1 1 L
def lenOf (m : Pm) (ns : Nat) : Nat := if ns < 2 then m.c else 0
theorem len_any (m : Pm) (w : World) (B R g0 g1 g2 g3 : Nat) (L : List Nat) (h : R4 m w B R g0 g1 g2 g3 L) (ns : Nat) (hns : ns < 4) : Calls Tryd.prog 27 #[.pointer (some ⟨R, 0, none⟩), .int .i64 (ns : Int)] w fun e w' => e = .returned (.int .i64 (lenOf m ns : Int)) ∧ w' = w := by
  obtain ⟨v0, vm, vT, hb⟩ := h.blk
  obtain ⟨c, hc⟩ : ∃ c, m.c = c := ⟨_, rfl⟩
  rw [hc] at hb
  have c1 := hb.cell 1
  have c2 := hb.cell 2
  have c3 := hb.cell 3
  have c4 := hb.cell 4
  rcases (show ns = 0 ∨ ns = 1 ∨ ns = 2 ∨ ns = 3 by omega) with rfl | rfl | rfl | rfl
  · have e : lenOf m 0 = c := by rw [← hc]; rfl
    rw [e]
    clear hb hc e h
    go_enter Tryd.func27, Tryd.ntmps27
    go_wp2
    go_ret
    exact ⟨rfl, rfl⟩
  · have e : lenOf m 1 = c := by rw [← hc]; rfl
    rw [e]
    clear hb hc e h
    go_enter Tryd.func27, Tryd.ntmps27
    go_wp2
    go_ret
    exact ⟨rfl, rfl⟩
  · have e : lenOf m 2 = 0 := rfl
    rw [e]
    clear hb hc e h
    go_enter Tryd.func27, Tryd.ntmps27
    go_wp2
    go_ret
    exact ⟨rfl, rfl⟩
  · have e : lenOf m 3 = 0 := rfl
    rw [e]
    clear hb hc e h
    go_enter Tryd.func27, Tryd.ntmps27
    go_wp2
    go_ret
    exact ⟨rfl, rfl⟩
theorem cnt_any (m : Pm) (w : World) (B R g0 g1 g2 g3 : Nat) (L : List Nat) (h : R4 m w B R g0 g1 g2 g3 L) (ns k : Nat) (hk : k < lenOf m ns) : Calls Tryd.prog 28 #[.pointer (some ⟨R, 0, none⟩), .int .i64 (ns : Int), .int .i64 (k : Int)] w fun e w' => e = .returned (.int .u32 (m.cF (ns : Int) k L)) ∧ w' = w := by
  obtain ⟨v0, vm, vT, hb⟩ := h.blk
  obtain ⟨c, hc⟩ : ∃ c, m.c = c := ⟨_, rfl⟩
  have hkc : k < m.c ∧ ns < 2 := by unfold lenOf at hk; split at hk <;> omega
  have q0 := (h.s0.cell hkc.1).1
  have q1 := (h.s1.cell hkc.1).1
  rw [hc] at hb hkc
  have c1 := hb.cell 1
  have c2 := hb.cell 2
  have hk2 := hkc.1
  rcases (show ns = 0 ∨ ns = 1 by omega) with rfl | rfl
  · clear hb hc h hk hkc
    have d0 : ((0 : Nat) : Int) = 0 := rfl
    rw [d0]
    clear d0
    go_enter Tryd.func28, Tryd.ntmps28
    go_wp2
    go_ret
    exact ⟨rfl, rfl⟩
  · clear hb hc h hk hkc
    have d0 : ((1 : Nat) : Int) = 1 := rfl
    rw [d0]
    clear d0
    go_enter Tryd.func28, Tryd.ntmps28
    go_wp2
    go_ret
    exact ⟨rfl, rfl⟩
theorem cap_any (m : Pm) (w : World) (B R g0 g1 g2 g3 : Nat) (L : List Nat) (h : R4 m w B R g0 g1 g2 g3 L) (ns k : Nat) (hk : k < lenOf m ns) : Calls Tryd.prog 29 #[.pointer (some ⟨R, 0, none⟩), .int .i64 (ns : Int), .int .i64 (k : Int)] w fun e w' => e = .returned (.int .u32 (m.fF (ns : Int) k L)) ∧ w' = w := by
  obtain ⟨v0, vm, vT, hb⟩ := h.blk
  obtain ⟨c, hc⟩ : ∃ c, m.c = c := ⟨_, rfl⟩
  have hkc : k < m.c ∧ ns < 2 := by unfold lenOf at hk; split at hk <;> omega
  have q0 := (h.s0.cell hkc.1).2
  have q1 := (h.s1.cell hkc.1).2
  rw [hc] at hb hkc
  have c1 := hb.cell 1
  have c2 := hb.cell 2
  have hk2 := hkc.1
  rcases (show ns = 0 ∨ ns = 1 by omega) with rfl | rfl
  · clear hb hc h hk hkc
    have d0 : ((0 : Nat) : Int) = 0 := rfl
    rw [d0]
    clear d0
    go_enter Tryd.func29, Tryd.ntmps29
    go_wp2
    go_ret
    exact ⟨rfl, rfl⟩
  · clear hb hc h hk hkc
    have d0 : ((1 : Nat) : Int) = 1 := rfl
    rw [d0]
    clear d0
    go_enter Tryd.func29, Tryd.ntmps29
    go_wp2
    go_ret
    exact ⟨rfl, rfl⟩
set_option maxRecDepth 100000 in
theorem same_any (m : Pm) (w : World) (hc : m.c ≤ 65536) (B R g0 g1 g2 g3 R' g0' g1' g2' g3' : Nat) (L L' : List Nat) (h : R4 m w B R g0 g1 g2 g3 L) (h' : R4 m w B R' g0' g1' g2' g3' L') (hp : L.Perm L') :
    Calls Tryd.prog 12 #[.pointer (some ⟨R, 0, none⟩), .pointer (some ⟨R', 0, none⟩)] w fun e w' => e = .returned (.bool true) ∧ w' = w := by
  have HL := Lib.hid (fun (ns : Nat) (hns : ns < 4) (Rx : Nat) (hx : Rx = R ∨ Rx = R') => (show Calls Tryd.prog 27 #[.pointer (some ⟨Rx, 0, none⟩), .int .i64 (ns : Int)] w fun e w' => e = .returned (.int .i64 (lenOf m ns : Int)) ∧ w' = w from by
    rcases hx with rfl | rfl
    · exact len_any m w B _ g0 g1 g2 g3 L h ns hns
    · exact len_any m w B _ g0' g1' g2' g3' L' h' ns hns))
  have HC := Lib.hid (fun (ns k : Nat) (hk : k < lenOf m ns) (Rx : Nat) (hx : Rx = R ∨ Rx = R') => (show Calls Tryd.prog 28 #[.pointer (some ⟨Rx, 0, none⟩), .int .i64 (ns : Int), .int .i64 (k : Int)] w fun e w' => e = .returned (.int .u32 (m.cF (ns : Int) k L)) ∧ w' = w from by
    rcases hx with rfl | rfl
    · exact cnt_any m w B _ g0 g1 g2 g3 L h ns k hk
    · rw [m.cF_perm (ns : Int) k hp]
      exact cnt_any m w B _ g0' g1' g2' g3' L' h' ns k hk))
  have HF := Lib.hid (fun (ns k : Nat) (hk : k < lenOf m ns) (Rx : Nat) (hx : Rx = R ∨ Rx = R') => (show Calls Tryd.prog 29 #[.pointer (some ⟨Rx, 0, none⟩), .int .i64 (ns : Int), .int .i64 (k : Int)] w fun e w' => e = .returned (.int .u32 (m.fF (ns : Int) k L)) ∧ w' = w from by
    rcases hx with rfl | rfl
    · exact cap_any m w B _ g0 g1 g2 g3 L h ns k hk
    · rw [m.fF_perm (ns : Int) k hp]
      exact cap_any m w B _ g0' g1' g2' g3' L' h' ns k hk))
  have HM := Lib.hid (show ∀ ns, lenOf m ns ≤ 65536 from fun ns => by unfold lenOf; split <;> omega)
  clear h h' hp hc
  go_enter Tryd.func12, Tryd.ntmps12
  go_wp2_with fail
  go_loopg [5, 6, 7] 4 (fun k a _ _ wx => ∃ ns : Nat, a = .int .i64 (ns : Int) ∧ ns ≤ 4 ∧ 4 - ns ≤ k ∧ w = wx)
  case atStart => exact ⟨0, rfl, by omega, by omega, rfl⟩
  case round =>
    obtain ⟨ns, rfl, hn, hk, rfl⟩ := hrel
    obtain ⟨gO, rfl⟩ : ∃ gO, gO = gk := ⟨_, rfl⟩
    rcases (show ns = 4 ∨ ns < 4 by omega) with he | hlt
    · subst he
      go_wp2_with fail
      go_ret
      exact ⟨rfl, rfl⟩
    · have HLn := Lib.hid (HL.out ns hlt)
      have HCn := Lib.hid (HC.out ns)
      have HFn := Lib.hid (HF.out ns)
      have hle := HM.out ns
      obtain ⟨la, hla⟩ : ∃ la, lenOf m ns = la := ⟨_, rfl⟩
      rw [hla] at HLn HCn HFn hle
      clear hla
      go_upto_region 7 with (go_at_call 27; refine (HLn.out _ (by first | exact .inl rfl | exact .inr rfl)).mono ?_; rintro e w2 ⟨rfl, he⟩; obtain rfl := he.symm)
      go_wp2_with fail
      go_loopg [7] la (fun k a wx => ∃ q : Nat, a = .int .i64 (q : Int) ∧ q ≤ la ∧ la - q ≤ k ∧ w = wx)
      case atStart => exact ⟨0, rfl, by omega, by omega, rfl⟩
      case round =>
        obtain ⟨q, rfl, hq, hk2, rfl⟩ := hrel
        rcases (show q = la ∨ q < la by omega) with he | hql
        · subst he
          go_wp2_with fail
          go_roundg (gO - 1)
          case measure => omega
          case rel => exact ⟨ns + 1, by go_num, by omega, by omega, rfl⟩
        · have HC2 := Lib.hid (HCn.out q hql)
          have HF2 := Lib.hid (HFn.out q hql)
          obtain ⟨x, hx⟩ : ∃ x, m.cF (ns : Int) q L = x := ⟨_, rfl⟩
          obtain ⟨y, hy⟩ : ∃ y, m.fF (ns : Int) q L = y := ⟨_, rfl⟩
          rw [hx] at HC2
          rw [hy] at HF2
          clear hx hy
          have hxx : decide (x = x) = true := by simp
          go_wp2_with (first
            | (go_at_call 28; refine (HC2.out _ (by first | exact .inl rfl | exact .inr rfl)).mono ?_; rintro e w2 ⟨rfl, he⟩; obtain rfl := he.symm)
            | (go_at_call 29; refine (HF2.out _ (by first | exact .inl rfl | exact .inr rfl)).mono ?_; rintro e w2 ⟨rfl, he⟩; obtain rfl := he.symm))
          go_roundg (gk - 1)
          case measure => omega
          case rel => exact ⟨q + 1, by go_num, by omega, by omega, rfl⟩
end Go.Proofs.YtmpfgkiljfoicaaDoor
