/-
  A loop in a great frame: the relation names a few slots, the rest of the frame is a function of the slot's number. No program in sight.
-/
import Derived.Test.YtiaiphoeopdlaaaFmtBase
import Derived.Deep.LoopGhost
namespace Go.Proofs.YtiaiphoeopdlaaaFmt

/-- a frame of N slots: those of the list hold what it says, the others what us says -/
def frA (l : List (Nat × Value)) (us : Nat → Value) (N : Nat) : Array Value := ((List.range N).map fun j => ((l.find? (fun p => p.1 == j)).map (·.2)).getD (us j)).toArray
theorem fr_of {x : Array Value} {N : Nat} {l : List (Nat × Value)} (hs : x.size = N) (h : ∀ p ∈ l, x[p.1]? = some p.2) : x = frA l (fun j => x.getD j undef) N := by
  apply Array.ext
  · simp [frA, hs]
  · intro j h1 h2
    simp only [frA, List.getElem_toArray, List.getElem_map, List.getElem_range]
    cases hf : l.find? (fun p => p.1 == j) with
    | none => simp [h1]
    | some p =>
      have hm := List.mem_of_find?_eq_some hf
      have hp := List.find?_some hf
      have e : p.1 = j := by simpa using hp
      have := h p hm
      rw [e] at this
      rw [Array.getElem?_eq_getElem h1] at this
      simpa using Option.some.inj this
end Go.Proofs.YtiaiphoeopdlaaaFmt
