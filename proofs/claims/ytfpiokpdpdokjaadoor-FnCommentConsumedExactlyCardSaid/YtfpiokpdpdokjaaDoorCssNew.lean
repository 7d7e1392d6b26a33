/-
  A fresh css lexer, and the exports that read its fields. No statement of the seat is proved here.
-/
import Derived.Test.YtfpiokpdpdokjaaDoorCssStep
namespace Go.Proofs.YtfpiokpdpdokjaaDoor
open Go.RowKit
set_option linter.unusedVariables false
noncomputable def cSrc (s : ByteArray) : Array Value := cellsOf ((Instr.build 60 #[(2, .string s)]).run Tryd.prog default)
theorem cBuild47 (s : ByteArray) (w : World) : (Instr.build 60 #[(2, .string s)]).run Tryd.prog w = .ok (.agg (cSrc s)) w := by kernel_rfl
/-- a lexer before its first step -/
def fresh (s : ByteArray) (r : Bool) : Lx := { ra := r, s := s, al := .slice none 0 0, lg := .slice none 0 0, mt := ByteArray.empty, ms := 0, ml := 0, nl := 0, cur := 0, cp := 0, st := 0, ln := 0, un := 0, kd := 0, fl := 0 }
theorem tabs_below {g3 g4 B : Nat} {w w' : World} (h : Lib.Utf8Tabs g3 g4 w) (hb : Below B w w') (h3 : g3 < B) (h4 : g4 < B) : Lib.Utf8Tabs g3 g4 w' :=
  ⟨fun c hc => (hb.cell (p := ⟨g3, c, none⟩) h3).trans (h.1 c hc), fun i hi => ⟨(hb.cell (p := ⟨g4, 2 * i, none⟩) h4).trans (h.2 i hi).1, (hb.cell (p := ⟨g4, 2 * i + 1, none⟩) h4).trans (h.2 i hi).2⟩⟩
end Go.Proofs.YtfpiokpdpdokjaaDoor
