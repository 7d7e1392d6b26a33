/-
  The law's checks of its arguments. No statement of the seat is proved here.
-/
import Derived.Test.YtnfjfjcdehohhaaDoorZf0
import Derived.Deep.DeepCutAuto
namespace Go.Proofs.YtnfjfjcdehohhaaDoor
open Go.RowKit
set_option linter.unusedVariables false
set_option linter.unusedSimpArgs false

/-- every number of the list is one of kind u8 / u32 -/
def B8 (zs : List Int) : Prop := ∀ i, i < zs.length → 0 ≤ nth zs i ∧ nth zs i < 256
def B32 (zs : List Int) : Prop := ∀ i, i < zs.length → 0 ≤ nth zs i ∧ nth zs i < 4294967296
/-- the nested slots lie in range up to k -/
def NestOk (ks ns : List Int) (c0 c1 : Int) (k : Nat) : Prop := ∀ i, i < k → nth ks i % 3 ≠ 0 → nth ns i ≠ 0 → nth ns i - 1 < (if nth ks i % 3 = 2 then c1 else c0)
def TopsOk (ks ts : List Int) (k : Nat) : Prop := ∀ i, i < k → nth ts i < (ks.length : Int) ∧ nth ks (nth ts i).toNat % 3 ≠ 0
/-- a check: it answers a Bool, turns nothing; where it answers true, F holds -/
def ChkD (F : Prop) (w : World) (e : Ending) (w' : World) : Prop := (∃ d, w' = w.drewN d) ∧ (e = .returned (.bool false) ∨ (e = .returned (.bool true) ∧ F))
def Chk (F : Prop) (w : World) (e : Ending) (w' : World) : Prop := w' = w ∧ (e = .returned (.bool false) ∨ (e = .returned (.bool true) ∧ F))

set_option maxHeartbeats 2000000 in
set_option maxRecDepth 100000 in
theorem nest_any (ko : Option Addr) (n kc : Nat) (ks : List Int) (hk : ks.length = n) (hk8 : B8 ks) (po : Option Addr) (pc : Nat) (ps : List Int) (hp : ps.length = n) (hp32 : B32 ps) (c0 c1 c2 c3 : Int) (hn : n ≤ 65536) (w : World) (hi1 : In .u8 w ko ks) (hi2 : In .u32 w po ps) :
    Calls Tryd.prog 16 #[.slice ko n kc, .slice po n pc, .int .u32 c0, .int .u32 c1, .int .u32 c2, .int .u32 c3] w (ChkD (NestOk ks ps c0 c1 n) w) := by
  have HI := Lib.hid (And.intro hi1 hi2)
  have HB := Lib.hid (And.intro hk8 hp32)
  clear hi1 hi2 hk8 hp32
  go_enter Tryd.func16, Tryd.ntmps16
  go_wp2_with fail
  go_loopg [13] n (fun k a wr => ∃ i : Nat, a = .int .i64 (i : Int) ∧ i ≤ n ∧ n - i ≤ k ∧ (∃ d, wr = w.drewN d) ∧ Hid (NestOk ks ps c0 c1 i))
  case atStart => exact ⟨0, rfl, by omega, by omega, ⟨0, rfl⟩, Lib.hid (fun i hi => by omega)⟩
  case round =>
    obtain ⟨i, rfl, hi, hk', ⟨d, rfl⟩, HT⟩ := hrel
    rcases (show n = i ∨ i < n by omega) with he | hlt
    · obtain rfl := he
      go_wp2_with fail
      go_ret
      exact ⟨⟨d, rfl⟩, .inr ⟨rfl, HT.out⟩⟩
    · obtain ⟨b, off, rfl, hblt, hc⟩ := HI.out.2.at (i := i) (by omega)
      obtain ⟨z, hz⟩ : ∃ z, nth ps i = z := ⟨_, rfl⟩
      rw [hz] at hc
      have hzb := HB.out.2 i (by omega)
      rw [hz] at hzb
      have HZ := Lib.hid hz
      clear hz
      obtain ⟨b2, off2, rfl, hblt2, hd⟩ := HI.out.1.at (i := i) (by omega)
      have hkb := HB.out.1 i (by omega)
      obtain ⟨k, hk2⟩ : ∃ k, nth ks i = k := ⟨_, rfl⟩
      rw [hk2] at hd hkb
      have HK := Lib.hid hk2
      clear hk2
      have HP := Lib.hid (fun (w : World) => pin_any k hkb.1 hkb.2 w)
      have HN := Lib.hid (fun (w : World) => ns_any k hkb.1 hkb.2 w)
      obtain ⟨cc, hcc⟩ : ∃ cc, (if k % 3 = 2 then c1 else c0) = cc := ⟨_, rfl⟩
      have HC := fun (w : World) => cnt_any c0 c1 c2 c3 k w
      rw [hcc] at HC
      have HC := Lib.hid HC
      have HCC := Lib.hid hcc
      clear hcc
      have hgood : (k % 3 ≠ 0 → z ≠ 0 → z - 1 < cc) → NestOk ks ps c0 c1 (i + 1) := fun h x hx => by
        rcases (show x < i ∨ x = i by omega) with h' | rfl
        · exact HT.out x h'
        · rw [HK.out, HZ.out, HCC.out]; exact h
      have HG := Lib.hid hgood
      clear hgood
      by_cases h2 : k % 3 = 0
      · have h3 : pin k = true := by simp [pin, h2]
        rw [h3] at HP
        go_upto_region 4 with fail
        go_quiet (first | (go_at_call 12; exact (HP.out _).mono (fun _ _ hq => ⟨hq.1, _, hq.2⟩)) | (go_at_call 22; exact (HN.out _).mono (fun _ _ hq => ⟨hq.1, _, hq.2⟩)) | (go_at_call 21; exact (HC.out _).mono (fun _ _ hq => ⟨hq.1, _, hq.2⟩)))
        go_wp2_with fail
        go_roundg (gk - 1)
        case measure => omega
        case rel => exact ⟨i + 1, by go_num, by omega, by omega, ⟨_, by first | rfl | rw [World.drewN_drewN]⟩, Lib.hid (HG.out (fun h => absurd h2 h))⟩
      · have h3 : pin k = false := by simp [pin, h2]
        rw [h3] at HP
        by_cases h4 : z = 0
        · subst h4
          go_upto_region 4 with fail
          go_quiet (first | (go_at_call 12; exact (HP.out _).mono (fun _ _ hq => ⟨hq.1, _, hq.2⟩)) | (go_at_call 22; exact (HN.out _).mono (fun _ _ hq => ⟨hq.1, _, hq.2⟩)) | (go_at_call 21; exact (HC.out _).mono (fun _ _ hq => ⟨hq.1, _, hq.2⟩)))
          go_wp2_with fail
          go_roundg (gk - 1)
          case measure => omega
          case rel => exact ⟨i + 1, by go_num, by omega, by omega, ⟨_, by first | rfl | rw [World.drewN_drewN]⟩, Lib.hid (HG.out (fun _ h => absurd rfl h))⟩
        · have h5 : (z == 0) = false := by simp [h4]
          have hw1 : IntKind.u32.wrap (z - 1) = z - 1 := by rw [IntKind.wrap_u32]; omega
          by_cases h6 : cc ≤ z - 1
          · have h7 : decide (cc ≤ z - 1) = true := by simp [h6]
            go_upto_region 4 with fail
            go_quiet (first | (go_at_call 12; exact (HP.out _).mono (fun _ _ hq => ⟨hq.1, _, hq.2⟩)) | (go_at_call 22; exact (HN.out _).mono (fun _ _ hq => ⟨hq.1, _, hq.2⟩)) | (go_at_call 21; exact (HC.out _).mono (fun _ _ hq => ⟨hq.1, _, hq.2⟩)))
            go_wp2_with fail
            go_ret
            exact ⟨⟨_, by rw [World.drewN_drewN]⟩, .inl rfl⟩
          · have h7 : decide (cc ≤ z - 1) = false := by simp; omega
            go_upto_region 4 with fail
            go_quiet (first | (go_at_call 12; exact (HP.out _).mono (fun _ _ hq => ⟨hq.1, _, hq.2⟩)) | (go_at_call 22; exact (HN.out _).mono (fun _ _ hq => ⟨hq.1, _, hq.2⟩)) | (go_at_call 21; exact (HC.out _).mono (fun _ _ hq => ⟨hq.1, _, hq.2⟩)))
            go_wp2_with fail
            go_roundg (gk - 1)
            case measure => omega
            case rel => exact ⟨i + 1, by go_num, by omega, by omega, ⟨_, by first | rfl | rw [World.drewN_drewN]⟩, Lib.hid (HG.out (fun _ _ => by omega))⟩
def SomeInt (e : Ending) : Prop := ∃ x : Int, e = .returned (.int .i64 x)
def SomeBool (e : Ending) : Prop := ∃ b : Bool, e = .returned (.bool b)
theorem counts_any (c0 c1 c2 c3 : Int) (w : World) : Calls Tryd.prog 15 #[.int .u32 c0, .int .u32 c1, .int .u32 c2, .int .u32 c3] w (Chk (c0 ≤ 65536 ∧ c1 ≤ 65536 ∧ c2 ≤ 65536 ∧ c3 ≤ 65536) w) := by
  by_cases h0 : c0 ≤ 65536
  · by_cases h1 : c1 ≤ 65536
    · by_cases h2 : c2 ≤ 65536
      · by_cases h3 : c3 ≤ 65536
        · go_enter Tryd.func15, Tryd.ntmps15
          go_wp2
          go_ret
          exact ⟨rfl, .inr ⟨rfl, h0, h1, h2, h3⟩⟩
        all_goals
          go_enter Tryd.func15, Tryd.ntmps15
          go_wp2
          go_ret
          exact ⟨rfl, .inl rfl⟩
      all_goals
        go_enter Tryd.func15, Tryd.ntmps15
        go_wp2
        go_ret
        exact ⟨rfl, .inl rfl⟩
    all_goals
      go_enter Tryd.func15, Tryd.ntmps15
      go_wp2
      go_ret
      exact ⟨rfl, .inl rfl⟩
  all_goals
    go_enter Tryd.func15, Tryd.ntmps15
    go_wp2
    go_ret
    exact ⟨rfl, .inl rfl⟩
end Go.Proofs.YtnfjfjcdehohhaaDoor
