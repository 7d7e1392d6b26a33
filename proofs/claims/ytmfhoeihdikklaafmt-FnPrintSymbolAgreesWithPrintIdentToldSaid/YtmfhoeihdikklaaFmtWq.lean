/-
  WouldStartIdentifierWithoutEscapes for every text; printIdent for every name that meets no hexadecimal escape. No statement of the seat is proved here.
-/
import Derived.Test.YtmfhoeihdikklaaFmtPn
import Derived.Deep.CutBlock
namespace Go.Proofs.YtmfhoeihdikklaaFmt
open Go.RowKit
set_option linter.unusedVariables false
set_option linter.unusedSimpArgs false

theorem tabs_lt {w : World} (ht : Lib.Utf8Tabs 1 2 w) : 1 < w.heap.size ∧ 2 < w.heap.size :=
  ⟨World.block_lt_of_cell? w _ (ht.1 0 (by decide)), World.block_lt_of_cell? w _ (ht.2 0 (by decide)).1⟩
theorem ext0 (t : ByteArray) : t.extract 0 t.size = t := by simp
set_option maxHeartbeats 1000000 in
set_option maxRecDepth 100000 in
theorem ws_all (t : ByteArray) (w : World) (ht : Lib.Utf8Tabs 1 2 w) : Calls Tryf.prog 25 #[.string t] w fun e w' => e = .returned (.bool (wsF t)) ∧ Below w.heap.size w w' := by
  obtain ⟨bb, hbb⟩ : ∃ b, wsF t = b := ⟨_, rfl⟩
  rw [hbb]
  have hw := hbb
  unfold wsF at hw
  obtain ⟨⟨x, W⟩, hxW⟩ : ∃ p : Nat × Nat, dg t 0 = p := ⟨_, rfl⟩
  have H1 := dri2 t 0 x W w ht hxW
  rw [ext0] at H1
  have hWle := dg_le t 0 (Nat.zero_le _)
  rw [hxW] at hw hWle
  simp only [Nat.zero_add] at hw hWle
  have HD1 := Lib.hid H1
  have hlt := tabs_lt ht
  have HT := Lib.hid (And.intro ht hlt)
  clear H1 ht hlt hxW hbb
  rcases (show (x = 65533 ∧ W ≤ 1) ∨ (x = 65533 ∧ 1 < W) ∨ x ≠ 65533 by omega) with ⟨rfl, hW⟩ | ⟨rfl, hW⟩ | hx
  · have e : bb = false := by rw [← hw]; simp [hW]
    subst e
    clear hw
    go_enter Tryf.func25, Tryf.ntmps25
    go_wp2_with (go_at_call 32; refine HD1.out.mono ?_; rintro e w1 ⟨rfl, hb1⟩; have HB1 := Lib.hid hb1; clear hb1)
    go_ret
    exact ⟨rfl, HB1.out⟩
  · have hns : nameStart 65533 = true := by decide
    have e : bb = true := by
      have hW2 : ¬ W ≤ 1 := by omega
      rw [← hw]
      simp [hW2, hns]
    subst e
    have HN := Lib.hid (fun (w : World) => ns_any 65533 w)
    rw [hns] at HN
    clear hw hns
    go_enter Tryf.func25, Tryf.ntmps25
    go_wp2_with (first
      | (go_at_call 32; refine HD1.out.mono ?_; rintro e w1 ⟨rfl, hb1⟩; have HB1 := Lib.hid hb1; clear hb1)
      | (go_at_call 33; refine (HN.out _).mono ?_; rintro e w2 ⟨rfl, he⟩; obtain rfl := he))
    go_ret
    exact ⟨rfl, HB1.out⟩
  · have d1 : decide ((x : Int) = 65533) = false := by simp; omega
    have d1' : ((x : Int) == 65533) = false := by simp; omega
    have dx : decide (x = 65533 ∧ W ≤ 1) = false := by simp [hx]
    rw [dx] at hw
    simp only [Bool.not_false, Bool.true_and] at hw
    have HN := Lib.hid (fun (w : World) => ns_any (x : Int) w)
    obtain ⟨nb, hnb⟩ : ∃ b, nameStart (x : Int) = b := ⟨_, rfl⟩
    rw [hnb] at HN hw
    clear hnb dx hx
    cases nb with
    | true =>
      simp only [Bool.true_or] at hw
      subst hw
      go_enter Tryf.func25, Tryf.ntmps25
      go_wp2_with (first
        | (go_at_call 32; refine HD1.out.mono ?_; rintro e w1 ⟨rfl, hb1⟩; have HB1 := Lib.hid hb1; clear hb1)
        | (go_at_call 33; refine (HN.out _).mono ?_; rintro e w2 ⟨rfl, he⟩; obtain rfl := he))
      go_ret
      exact ⟨rfl, HB1.out⟩
    | false =>
      simp only [Bool.false_or] at hw
      by_cases h45 : x = 45
      case neg =>
        have d2 : decide (x = 45) = false := by simp [h45]
        have d3 : decide ((x : Int) = 45) = false := by simp; omega
        have d3' : ((x : Int) == 45) = false := by simp; omega
        rw [d2] at hw
        simp only [Bool.false_and] at hw
        subst hw
        clear h45 d2
        go_enter Tryf.func25, Tryf.ntmps25
        go_wp2_with (first
          | (go_at_call 32; refine HD1.out.mono ?_; rintro e w1 ⟨rfl, hb1⟩; have HB1 := Lib.hid hb1; clear hb1)
          | (go_at_call 33; refine (HN.out _).mono ?_; rintro e w2 ⟨rfl, he⟩; obtain rfl := he))
        go_ret
        exact ⟨rfl, HB1.out⟩
      case pos =>
        subst h45
        simp only [decide_true, Bool.true_and] at hw
        obtain ⟨⟨y, V⟩, hyV⟩ : ∃ p : Nat × Nat, dg t W = p := ⟨_, rfl⟩
        rw [hyV] at hw
        simp only at hw
        have HD2 := Lib.hid (fun (w1 : World) (hb : Below w.heap.size w w1) => dri2 t W y V w1 (tabs_below HT.out.1 hb HT.out.2.1 HT.out.2.2) hyV)
        clear hyV
        go_enter Tryf.func25, Tryf.ntmps25
        go_upto_region 7 with (first
          | (go_at_call 32; refine HD1.out.mono ?_; rintro e w1 ⟨rfl, hb1⟩; have HB1 := Lib.hid hb1; clear hb1)
          | (go_at_call 33; refine (HN.out _).mono ?_; rintro e w2 ⟨rfl, he⟩; obtain rfl := he))
        clear HN
        rcases (show (y = 65533 ∧ V ≤ 1) ∨ (y = 65533 ∧ 1 < V) ∨ y ≠ 65533 by omega) with ⟨rfl, hV⟩ | ⟨rfl, hV⟩ | hy
        · have e : bb = false := by rw [← hw]; simp [hV]
          subst e
          clear hw
          go_wp2_with (go_at_call 32; refine (HD2.out _ HB1.out).mono ?_; rintro e w3 ⟨rfl, hb3⟩; have HB3 := Lib.hid hb3; clear hb3)
          go_ret
          exact ⟨rfl, HB1.out.trans (HB3.out.mono HB1.out.size)⟩
        · have hns : nameStart 65533 = true := by decide
          have e : bb = true := by
            have hV2 : ¬ V ≤ 1 := by omega
            rw [← hw]
            simp [hV2, hns]
          subst e
          have HN := Lib.hid (fun (w : World) => ns_any 65533 w)
          rw [hns] at HN
          clear hw hns
          go_wp2_with (first
            | (go_at_call 32; refine (HD2.out _ HB1.out).mono ?_; rintro e w3 ⟨rfl, hb3⟩; have HB3 := Lib.hid hb3; clear hb3)
            | (go_at_call 33; refine (HN.out _).mono ?_; rintro e w4 ⟨rfl, he⟩; obtain rfl := he))
          go_ret
          exact ⟨rfl, HB1.out.trans (HB3.out.mono HB1.out.size)⟩
        · have e1 : decide ((y : Int) = 65533) = false := by simp; omega
          have e1' : ((y : Int) == 65533) = false := by simp; omega
          have dy : decide (y = 65533 ∧ V ≤ 1) = false := by simp [hy]
          rw [dy] at hw
          simp only [Bool.not_false, Bool.true_and] at hw
          have HN := Lib.hid (fun (w : World) => ns_any (y : Int) w)
          obtain ⟨mb, hmb⟩ : ∃ b, nameStart (y : Int) = b := ⟨_, rfl⟩
          rw [hmb] at HN hw
          clear hmb dy hy
          have hd : mb = true ∨ (mb = false ∧ y = 45) ∨ (mb = false ∧ y ≠ 45) := by
            cases mb
            · by_cases h : y = 45
              · exact .inr (.inl ⟨rfl, h⟩)
              · exact .inr (.inr ⟨rfl, h⟩)
            · exact .inl rfl
          rcases hd with rfl | ⟨rfl, rfl⟩ | ⟨rfl, h45⟩
          · simp only [Bool.true_or] at hw
            subst hw
            go_wp2_with (first
              | (go_at_call 32; refine (HD2.out _ HB1.out).mono ?_; rintro e w3 ⟨rfl, hb3⟩; have HB3 := Lib.hid hb3; clear hb3)
              | (go_at_call 33; refine (HN.out _).mono ?_; rintro e w4 ⟨rfl, he⟩; obtain rfl := he))
            go_ret
            exact ⟨rfl, HB1.out.trans (HB3.out.mono HB1.out.size)⟩
          · simp only [Bool.false_or, decide_true] at hw
            subst hw
            go_wp2_with (first
              | (go_at_call 32; refine (HD2.out _ HB1.out).mono ?_; rintro e w3 ⟨rfl, hb3⟩; have HB3 := Lib.hid hb3; clear hb3)
              | (go_at_call 33; refine (HN.out _).mono ?_; rintro e w4 ⟨rfl, he⟩; obtain rfl := he))
            go_ret
            exact ⟨rfl, HB1.out.trans (HB3.out.mono HB1.out.size)⟩
          · have d4 : decide (y = 45) = false := by simp [h45]
            have d5 : decide ((y : Int) = 45) = false := by simp; omega
            have d5' : ((y : Int) == 45) = false := by simp; omega
            rw [d4] at hw
            simp only [Bool.or_false] at hw
            subst hw
            clear h45 d4
            go_wp2_with (first
              | (go_at_call 32; refine (HD2.out _ HB1.out).mono ?_; rintro e w3 ⟨rfl, hb3⟩; have HB3 := Lib.hid hb3; clear hb3)
              | (go_at_call 33; refine (HN.out _).mono ?_; rintro e w4 ⟨rfl, he⟩; obtain rfl := he))
            go_ret
            exact ⟨rfl, HB1.out.trans (HB3.out.mono HB1.out.size)⟩
theorem pi_any (B p : Nat) (l : Int) (m a : Bool) (lnv : Option Nat) (syv : Option Addr × Nat) (zs : List Int) (s e : Int) (t : ByteArray) (ws : Int) (w : World) (hp : Pr w B p l m a lnv syv zs s e) (hB : B ≤ w.heap.size) (ht : t.size ≤ 1048576) (hl : zs.length + 8388608 ≤ 140737488355328)
    (hT : Lib.Utf8Tabs 1 2 w) (hn : NH t a) :
    Calls Tryf.prog 21 #[.pointer (some ⟨p, 0, none⟩), .string t, .int .u8 0, .int .u8 ws] w fun en w' => en = .returned (.tuple #[]) ∧ Pr w' B p l m a lnv syv (zs ++ out t) s e ∧ Below B w w' := by
  have hW := ws_all t w hT
  have hh := nohex_nh hn
  unfold out
  cases hw : wsF t with
  | false =>
    rw [hw] at hW hh
    rw [if_neg (by simp)]
    refine (pi_slow2 B p l m a lnv syv zs s e t ws w hp hB ht hl hW hh).mono ?_
    rintro en w' ⟨h1, h2, h3, _⟩
    exact ⟨h1, h2, h3⟩
  | true =>
    rw [hw] at hW hh
    rcases first_bad t t.size with hok | ⟨j, hj, h0, h1⟩
    · rw [if_pos ⟨rfl, hok⟩]
      refine (pi_fast B p l m a lnv syv zs s e t ws w hp hB ht hl hW hok).mono ?_
      rintro en w' ⟨h1, h2, h3, _⟩
      exact ⟨h1, h2, h3⟩
    · rw [if_neg (fun h => by have := h.2 j hj; rw [h1] at this; cases this)]
      refine (pi_slow1 B p l m a lnv syv zs s e t ws w hp hB ht hl hW hh j hj h0 h1).mono ?_
      rintro en w' ⟨h1, h2, h3, _⟩
      exact ⟨h1, h2, h3⟩
end Go.Proofs.YtmfhoeihdikklaaFmt
