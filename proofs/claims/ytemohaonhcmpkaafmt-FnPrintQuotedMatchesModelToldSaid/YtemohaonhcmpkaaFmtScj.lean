/-
  A scope with one label, at which a jump is walked on: what stands behind the label is met where the jump is. No program in sight.
-/
import Derived.Test.YtemohaonhcmpkaaFmtBase
import Derived.WalkMore
import Derived.ScopeJumps
namespace Go.Proofs.YtemohaonhcmpkaaFmt
theorem wp_scope_to {P : Program} {Q : Exit → Act → World → Prop} {a : Act} {w : World} {c rest : Code} (l : Nat) (hf : findLabel c l = some rest)
    (h : c.wp P (Exit.jump l (fun a' w' => rest.wp P (Exit.noGoto Q) a' w') Q) a w) : (Code.scope c).wp P Q a w := by
  refine wp_scope_jumps l (fun a' w' => rest.wp P (Exit.noGoto Q) a' w') (fun _ _ => 0) hf h (fun a' w' hJ => wp_mono hJ (fun e a'' w'' hq => ?_))
  cases e with
  | goto l' => exact hq.elim
  | normal => exact hq
  | exit id => exact hq
  | ret => exact hq
  | panic ch => exact hq
  | outgrown => exact hq
section
variable {Q : Exit → Act → World → Prop} {J : Act → World → Prop} {l : Nat} {a : Act} {w : World}
theorem jump_normal (h : Q .normal a w) : Exit.jump l J Q .normal a w := h
theorem jump_exit {id : Nat} (h : Q (.exit id) a w) : Exit.jump l J Q (.exit id) a w := h
theorem jump_ret (h : Q .ret a w) : Exit.jump l J Q .ret a w := h
theorem then_ret {K : Act → World → Prop} (h : Q .ret a w) : Exit.then K Q .ret a w := h
theorem jump_goto (h : J a w) : Exit.jump l J Q (.goto l) a w := ⟨rfl, h⟩
end
end Go.Proofs.YtemohaonhcmpkaaFmt
