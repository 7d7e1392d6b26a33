/-
  A region that draws its order, several of whose operations make memory: one step law an operation, whatever the order (a relation J over 'what has come up' in the place of a branch for each order). No statement of the seat is proved here.
-/
import Derived.Test.YtmpfgkiljfoicaaDoorBase
import Derived.Deep.RegionHeld
namespace Go.Proofs.YtmpfgkiljfoicaaDoor
open Go.RowKit
section
variable {P : Program} {md : Region.Mode} {ops : Array Oper} {Q : Exit → Act → World → Prop} {S : World → Prop}
def AllStep (P : Program) (ops : Array Oper) (Q : Exit → Act → World → Prop) (K : Nat → Act → World → Prop) (a : Act) (w : World) (rs : List Nat) : Prop := ∀ i ∈ rs, wpOp P ops Q i (K i) a w
theorem wpAnyH_fan {J : Nat → Array Bool → Act → World → Prop} (m : Nat) (hend : ∀ listed a w, J 0 listed a w → wpAnyH P md ops Q S m listed a w)
    (hs : ∀ n listed a w, J (n + 1) listed a w → ∃ rs, Region.ready md ops listed = rs ∧ rs ≠ [] ∧ AllStep P ops Q (fun i a' w' => S w' ∧ J n (listed.setIfInBounds i true) a' w') a w rs) :
    ∀ n listed a w, J n listed a w → wpAnyH P md ops Q S (m + n) listed a w := by
  intro n
  induction n with
  | zero => exact hend
  | succ n ih =>
    intro listed a w h
    obtain ⟨rs, h1, h2, h3⟩ := hs n listed a w h
    exact wpAnyH_all h1 h2 (fun i hi => wpOp_mono (fun a' w' h' => ⟨h'.1, ih _ _ _ h'.2⟩) (h3 i hi))
/-- one operation's step -/
theorem step_of {K : Act → World → Prop} {i : Nat} {o : Oper} {a : Act} {w : World} (ho : ops[i]? = some o)
    (h : ∀ K' : Act → World → Prop, (∀ a w, K a w → K' a w) → if Region.wanted o (yielded ops a.tmps) = true then Oper.wp P o a w K' Q else K' (a.put o.dst undef) w) : wpOp P ops Q i K a w := wpOp_step ho h
end
end Go.Proofs.YtmpfgkiljfoicaaDoor
