/-
  The css lexer's next on texts without slash, backslash, quote or opening parenthesis: its classes joined. No statement of the seat is proved here.
-/
import Derived.Test.YtlbpplkanogkgaaDoorNextA
import Derived.Test.YtlbpplkanogkgaaDoorNextB
import Derived.Test.YtlbpplkanogkgaaDoorNextC
namespace Go.Proofs.YtlbpplkanogkgaaDoor
open Go.RowKit
set_option linter.unusedVariables false
theorem next_any (p : Nat) (x : Lx) (b q : Nat) (w : World) (h : Lex w p x b q) (hs : Safe x.s) : Calls Tryd.prog 72 #[.pointer (some ⟨p, 0, none⟩)] w (Tok w p x b q) := by
  obtain ⟨s47, s92, s34, s39, s40⟩ := safe_cp hs q
  by_cases n_cparen : (decAt x.s q).1 = 41
  · exact nx_cparen p x b q w h n_cparen
  by_cases n_obrack : (decAt x.s q).1 = 91
  · exact nx_obrack p x b q w h n_obrack
  by_cases n_cbrack : (decAt x.s q).1 = 93
  · exact nx_cbrack p x b q w h n_cbrack
  by_cases n_obrace : (decAt x.s q).1 = 123
  · exact nx_obrace p x b q w h n_obrace
  by_cases n_cbrace : (decAt x.s q).1 = 125
  · exact nx_cbrace p x b q w h n_cbrace
  by_cases n_comma : (decAt x.s q).1 = 44
  · exact nx_comma p x b q w h n_comma
  by_cases n_colon : (decAt x.s q).1 = 58
  · exact nx_colon p x b q w h n_colon
  by_cases n_semi : (decAt x.s q).1 = 59
  · exact nx_semi p x b q w h n_semi
  by_cases n_gt : (decAt x.s q).1 = 62
  · exact nx_gt p x b q w h n_gt
  by_cases n_tilde : (decAt x.s q).1 = 126
  · exact nx_tilde p x b q w h n_tilde
  by_cases n_amp : (decAt x.s q).1 = 38
  · exact nx_amp p x b q w h n_amp
  by_cases n_star : (decAt x.s q).1 = 42
  · exact nx_star p x b q w h n_star
  by_cases n_bar : (decAt x.s q).1 = 124
  · exact nx_bar p x b q w h n_bar
  by_cases n_bang : (decAt x.s q).1 = 33
  · exact nx_bang p x b q w h n_bang
  by_cases n_eq : (decAt x.s q).1 = 61
  · exact nx_eq p x b q w h n_eq
  by_cases n_caret : (decAt x.s q).1 = 94
  · exact nx_caret p x b q w h n_caret
  by_cases n_dollar : (decAt x.s q).1 = 36
  · exact nx_dollar p x b q w h n_dollar
  by_cases n_eof : (decAt x.s q).1 = -1
  · exact nx_eof p x b q w h n_eof
  by_cases n_plus : (decAt x.s q).1 = 43
  · exact nx_plus p x b q w h n_plus
  by_cases n_dot : (decAt x.s q).1 = 46
  · exact nx_dot p x b q w h n_dot
  by_cases n_at : (decAt x.s q).1 = 64
  · exact nx_at p x b q w h n_at
  by_cases n_lt : (decAt x.s q).1 = 60
  · exact nx_lt p x b q w h n_lt
  by_cases n_dig48 : (decAt x.s q).1 = 48
  · exact nx_dig48 p x b q w h n_dig48
  by_cases n_dig49 : (decAt x.s q).1 = 49
  · exact nx_dig49 p x b q w h n_dig49
  by_cases n_dig50 : (decAt x.s q).1 = 50
  · exact nx_dig50 p x b q w h n_dig50
  by_cases n_dig51 : (decAt x.s q).1 = 51
  · exact nx_dig51 p x b q w h n_dig51
  by_cases n_dig52 : (decAt x.s q).1 = 52
  · exact nx_dig52 p x b q w h n_dig52
  by_cases n_dig53 : (decAt x.s q).1 = 53
  · exact nx_dig53 p x b q w h n_dig53
  by_cases n_dig54 : (decAt x.s q).1 = 54
  · exact nx_dig54 p x b q w h n_dig54
  by_cases n_dig55 : (decAt x.s q).1 = 55
  · exact nx_dig55 p x b q w h n_dig55
  by_cases n_dig56 : (decAt x.s q).1 = 56
  · exact nx_dig56 p x b q w h n_dig56
  by_cases n_dig57 : (decAt x.s q).1 = 57
  · exact nx_dig57 p x b q w h n_dig57
  by_cases n_ws32 : (decAt x.s q).1 = 32
  · exact nx_ws32 p x b q w h n_ws32 hs
  by_cases n_ws9 : (decAt x.s q).1 = 9
  · exact nx_ws9 p x b q w h n_ws9 hs
  by_cases n_ws10 : (decAt x.s q).1 = 10
  · exact nx_ws10 p x b q w h n_ws10 hs
  by_cases n_ws13 : (decAt x.s q).1 = 13
  · exact nx_ws13 p x b q w h n_ws13 hs
  by_cases n_ws12 : (decAt x.s q).1 = 12
  · exact nx_ws12 p x b q w h n_ws12 hs
  by_cases n_hash : (decAt x.s q).1 = 35
  · exact nx_hash p x b q w h n_hash hs
  by_cases n_minus : (decAt x.s q).1 = 45
  · exact nx_minus p x b q w h n_minus hs
  exact nx_other p x b q w h _ rfl hs (beq_eq_false_iff_ne.2 n_eof) (beq_eq_false_iff_ne.2 s47) (beq_eq_false_iff_ne.2 n_ws32) (beq_eq_false_iff_ne.2 n_ws9) (beq_eq_false_iff_ne.2 n_ws10) (beq_eq_false_iff_ne.2 n_ws13) (beq_eq_false_iff_ne.2 n_ws12) (beq_eq_false_iff_ne.2 s34) (beq_eq_false_iff_ne.2 s39) (beq_eq_false_iff_ne.2 n_hash) (beq_eq_false_iff_ne.2 s40) (beq_eq_false_iff_ne.2 n_cparen) (beq_eq_false_iff_ne.2 n_obrack) (beq_eq_false_iff_ne.2 n_cbrack) (beq_eq_false_iff_ne.2 n_obrace) (beq_eq_false_iff_ne.2 n_cbrace) (beq_eq_false_iff_ne.2 n_comma) (beq_eq_false_iff_ne.2 n_colon) (beq_eq_false_iff_ne.2 n_semi) (beq_eq_false_iff_ne.2 n_plus) (beq_eq_false_iff_ne.2 n_dot) (beq_eq_false_iff_ne.2 n_minus) (beq_eq_false_iff_ne.2 n_lt) (beq_eq_false_iff_ne.2 n_at) (beq_eq_false_iff_ne.2 s92) (beq_eq_false_iff_ne.2 n_dig48) (beq_eq_false_iff_ne.2 n_dig49) (beq_eq_false_iff_ne.2 n_dig50) (beq_eq_false_iff_ne.2 n_dig51) (beq_eq_false_iff_ne.2 n_dig52) (beq_eq_false_iff_ne.2 n_dig53) (beq_eq_false_iff_ne.2 n_dig54) (beq_eq_false_iff_ne.2 n_dig55) (beq_eq_false_iff_ne.2 n_dig56) (beq_eq_false_iff_ne.2 n_dig57) (beq_eq_false_iff_ne.2 n_gt) (beq_eq_false_iff_ne.2 n_tilde) (beq_eq_false_iff_ne.2 n_amp) (beq_eq_false_iff_ne.2 n_star) (beq_eq_false_iff_ne.2 n_bar) (beq_eq_false_iff_ne.2 n_bang) (beq_eq_false_iff_ne.2 n_eq) (beq_eq_false_iff_ne.2 n_caret) (beq_eq_false_iff_ne.2 n_dollar)
end Go.Proofs.YtlbpplkanogkgaaDoor
