/-
  FnAppendChunk's law, its ways joined. No statement of the seat is proved here.
-/
import Derived.Test.YtoegmcakolidbaaDoorLw
import Derived.Test.YtoegmcakolidbaaDoorLu
namespace Go.Proofs.YtoegmcakolidbaaDoor
open Go.RowKit
set_option linter.unusedVariables false
theorem law_all (a0 a3 a4 : Option Addr) (c0 c3 c4 : Nat) (xs ds ks : List Int) (p s : St) (pb sb : Bool) (w : World) (hx : In .u8 w a0 xs) (hd : In .i32 w a3 ds) (hk : In .u8 w a4 ks) (m0 : xs.length ≤ maxLen) (m3 : ds.length ≤ maxLen) (m4 : ks.length ≤ maxLen) (ht : Tab w w.heap.size) :
    Calls Tryd.prog 3 #[.slice a0 xs.length c0, .agg (sCells p pb), .agg (sCells s sb), .slice a3 ds.length c3, .slice a4 ks.length c4] w (LawTrue w) := by
  by_cases h1 : 1048576 < xs.length + ds.length + ks.length
  · exact bad_1 _ _ _ _ _ _ _ _ _ p s pb sb w h1 m0 m3 m4
  by_cases h2 : 65536 < xs.length ∨ 20480 < ds.length ∨ 65536 < ks.length
  · exact bad_2 _ _ _ _ _ _ _ _ _ p s pb sb w (by omega) h2
  by_cases h3 : ds.length < 5 ∨ sb = true
  · exact bad_4 _ _ _ _ _ _ _ _ _ p s pb sb w (by omega) (by omega) (by omega) (by omega) h3
  have hsb : sb = false := by
    cases sb
    · rfl
    · exact absurd (.inr rfl) h3
  have h4 : 5 ≤ ds.length := Nat.le_of_not_lt fun c => h3 (.inl c)
  by_cases h5 : s.gl < 0 ∨ 4096 < s.gl
  · exact bad_5 _ _ _ _ _ _ _ _ _ p s pb sb w (by omega) (by omega) (by omega) (by omega) h4 hsb h5
  subst hsb
  by_cases h6 : OkS p
  · by_cases h7 : OkS s
    · exact law_main a0 a3 a4 c0 c3 c4 _ _ _ p s pb xs ds ks w hx hd hk rfl rfl rfl (by omega) (by omega) (by omega) (by omega) h4 (by omega) (by omega) h6 h7 ht
    · exact bad_7 _ _ _ _ _ _ _ _ _ p s pb w (by omega) (by omega) (by omega) (by omega) h4 (by omega) (by omega) h6 h7
  · exact bad_6 _ _ _ _ _ _ _ _ _ p s pb w (by omega) (by omega) (by omega) (by omega) h4 (by omega) (by omega) h6
end Go.Proofs.YtoegmcakolidbaaDoor
