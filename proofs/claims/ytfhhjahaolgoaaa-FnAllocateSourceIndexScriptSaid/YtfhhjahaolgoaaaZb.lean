/-
  zzBytes at this seat: it answers with some Bool and turns nothing.
-/
import Derived.Test.YtfhhjahaolgoaaaNew
import Derived.Test.YtfhhjahaolgoaaaStrs
import Derived.Deep.LoopGhost
namespace Go.Proofs.Ytfhhjahaolgoaaa
open Go.RowKit

def SomeBool (e : Ending) : Prop := ∃ b : Bool, e = .returned (.bool b)

set_option maxHeartbeats 1000000 in
set_option maxRecDepth 100000 in
theorem zb_any (ao : Option Addr) (n cap : Nat) (ts : List ByteArray) (hn : ts.length = n) (hm : n ≤ maxLen) (w : World) (hin : InS w ao ts) :
    Calls Try.prog 4 #[.slice ao n cap] w fun e w' => SomeBool e ∧ w' = w := by
  by_cases h0 : (n : Int) > 1048576
  · go_enter Try.func4, Try.ntmps4
    go_wp2_with fail
    go_ret
    exact ⟨⟨false, rfl⟩, rfl⟩
  · have h1 : decide ((1048576 : Int) < (n : Int)) = false := by simp; omega
    go_enter Try.func4, Try.ntmps4
    go_wp2_with fail
    go_loopg [3, 4] n (fun k a b wr => ∃ (x : Int) (i : Nat), a = .int .i64 x ∧ b = .int .i64 (i : Int) ∧ i ≤ n ∧ n - i ≤ k ∧ wr = w)
    case atStart => exact ⟨_, 0, rfl, rfl, by omega, by omega, rfl⟩
    case round =>
      obtain ⟨x, i, rfl, rfl, hi, hk, rfl⟩ := hrel
      rcases (show i = n ∨ i < n by omega) with rfl | hlt
      · go_wp2_with fail
        go_ret
        exact ⟨⟨true, rfl⟩, rfl⟩
      · obtain ⟨b, off, rfl, _, hc⟩ := hin.at (i := i) (by omega)
        obtain ⟨t, ht⟩ : ∃ t, tth ts i = t := ⟨_, rfl⟩
        rw [ht] at hc
        by_cases h2 : (t.size : Int) > 1048576
        · go_wp2_with fail
          go_ret
          exact ⟨⟨false, rfl⟩, rfl⟩
        · have h3 : decide ((1048576 : Int) < (t.size : Int)) = false := by simp; omega
          obtain ⟨y, hy⟩ : ∃ y, IntKind.i64.wrap (x + (t.size : Int)) = y := ⟨_, rfl⟩
          by_cases h4 : y > 1048576
          · have h5 : decide ((1048576 : Int) < y) = true := by simp; omega
            go_wp2_with fail
            go_ret
            exact ⟨⟨false, rfl⟩, rfl⟩
          · have h5 : decide ((1048576 : Int) < y) = false := by simp; omega
            go_wp2_with fail
            go_roundg (n - (i + 1))
            case measure => omega
            case rel => exact ⟨y, i + 1, rfl, by go_num, hlt, Nat.le_refl _, rfl⟩
end Go.Proofs.Ytfhhjahaolgoaaa
