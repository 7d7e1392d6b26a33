/-
  A worklist that marks the reach of a vertex: what holds ahead of each round, what is left in the end. Plain law. No statement of the seat is proved here.
-/
import Derived.Test.YtffilaoipcjcmaaGreatDn
namespace Go.Proofs.YtffilaoipcjcmaaGreat

/-- marks s, the worklist st (its last is taken first), the vertex in work cur -/
structure WI (E : Nat → Nat → Prop) (r : Nat) (s : Nat → Bool) (st : List Nat) (cur : Nat → Prop) : Prop where
  root : s r = true
  stk : ∀ v, v ∈ st → s v = true
  reach : ∀ v, s v = true → Rch E (fun _ => False) (fun _ => False) r v
  closed : ∀ v, s v = true → v ∉ st → ¬ cur v → ∀ c, E v c → s c = true
section
variable {E : Nat → Nat → Prop} {r : Nat} {s : Nat → Bool} {st : List Nat} {cur : Nat → Prop}
theorem WI.init : WI E r (fun v => v == r) [r] (fun _ => False) :=
  ⟨by simp, fun v hv => by simpa using hv, fun v hv => by
    have e : v = r := by simpa using hv
    rw [e]; exact .here (by simp), fun v hv hn _ => absurd (by simpa using hv) hn⟩
theorem WI.pop {v : Nat} (h : WI E r s (st ++ [v]) (fun _ => False)) : WI E r s st (fun x => x = v) ∧ s v = true :=
  ⟨⟨h.root, fun u hu => h.stk u (List.mem_append_left _ hu), h.reach, fun u hu hn hc => h.closed u hu (fun hm => by
    rcases List.mem_append.1 hm with hm | hm
    · exact hn hm
    · exact hc (by simpa using hm)) id⟩, h.stk v (by simp)⟩
theorem WI.mark {v c : Nat} (h : WI E r s st cur) (hv : s v = true) (he : E v c) : WI E r (fun x => s x || x == c) (st ++ [c]) cur := by
  refine ⟨by simp [h.root], fun u hu => ?_, fun u hu => ?_, fun u hu hn hc d hd => ?_⟩
  · rcases List.mem_append.1 hu with hu | hu
    · simp [h.stk u hu]
    · have : u = c := by simpa using hu
      simp [this]
  · by_cases e : s u = true
    · exact h.reach u e
    · have e2 : u = c := by simpa [e] using hu
      rw [e2]
      exact (h.reach v hv).on (fun h => h) he (.here (fun h => h))
  · have hm : u ∉ st := fun hm => hn (List.mem_append_left _ hm)
    have e : u ≠ c := fun e => hn (by simp [e])
    have hs : s u = true := by simpa [e] using hu
    simp [h.closed u hs hm hc d hd]
theorem WI.done {v : Nat} (h : WI E r s st (fun x => x = v)) (hall : ∀ c, E v c → s c = true) : WI E r s st (fun _ => False) := by
  refine ⟨h.root, h.stk, h.reach, fun u hu hn _ c hc => ?_⟩
  by_cases e : u = v
  · rw [e] at hc; exact hall c hc
  · exact h.closed u hu hn e c hc
theorem WI.last (h : WI E r s [] (fun _ => False)) (v : Nat) : s v = true ↔ Rch E (fun _ => False) (fun _ => False) r v := by
  refine ⟨h.reach v, fun hr => ?_⟩
  have key : ∀ {a v : Nat}, Rch E (fun _ => False) (fun _ => False) a v → s a = true → s v = true := by
    intro a v hr
    induction hr with
    | here _ => exact id
    | step _ _ he _ ih => exact fun ha => ih (h.closed _ ha (by simp) id _ he)
  exact key hr h.root
end
end Go.Proofs.YtffilaoipcjcmaaGreat
